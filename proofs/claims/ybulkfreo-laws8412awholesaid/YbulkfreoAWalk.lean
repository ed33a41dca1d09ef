import Derived.Test.YbulkfreoRows
import Derived.WalkKit
import Derived.WalkSpells
import Derived.WalkLawsBesides
import Derived.Below
import Derived.WalkSmall
import Derived.Deep.QuietTactic
import Derived.BigQuiet
import Derived.Deep.RegionHeld3
namespace Go.Proofs.Ybulkfreo.AWalk
open Go.RowKit
set_option linter.unusedVariables false

set_option maxRecDepth 100000 in
theorem state_any (sel : Int) (raw : ByteArray) (w : World) (h : 0 ≤ sel ∧ sel ≤ 255) :
    Calls Yba.prog 5 #[.int .u8 sel, .string raw] w fun e w' => ∃ st, e = .returned (.string st) ∧ w' = w := by
  have h1 := h.1
  have h2 := h.2
  go_enter Yba.func5, Yba.ntmps5
  go_wp2
  all_goals (go_ret; exact ⟨_, rfl, rfl⟩)

set_option maxRecDepth 100000 in
theorem most_any (s wd : Int) (one : Bool) (w : World) :
    Calls Yba.prog 11 #[.agg #[.int .i64 s, .int .i64 wd], .bool one] w fun e w' => e = .returned (.int .i64 (if one then wd else s)) ∧ w' = w.alloc (.cells #[.int .i64 s, .int .i64 wd] 63) := by
  cases one
  · go_enter Yba.func11, Yba.ntmps11
    go_wp2
    go_ret
    exact ⟨rfl, rfl⟩
  · go_enter Yba.func11, Yba.ntmps11
    go_wp2
    go_ret
    exact ⟨rfl, rfl⟩

theorem most_is (s wd m : Int) (one : Bool) (w : World) (hm : m = (if one then wd else s)) :
    Calls Yba.prog 11 #[.agg #[.int .i64 s, .int .i64 wd], .bool one] w fun e w' => e = .returned (.int .i64 m) ∧ w' = w.alloc (.cells #[.int .i64 s, .int .i64 wd] 63) := by
  subst hm; exact most_any s wd one w

/-- "pending" -/
def pend : List UInt8 := [112, 101, 110, 100, 105, 110, 103]

set_option maxRecDepth 100000 in
set_option maxHeartbeats 400000 in
theorem over_other (J : Nat) (st : ByteArray) (s wd : Int) (w : World) (hJ : J < w.heap.size) (c19 : w.cell? ⟨J, 19, none⟩ = some (.string st)) (hst : (st.toList == pend) = false) :
    Calls Yba.prog 6 #[.pointer (some ⟨J, 0, none⟩), .agg #[.int .i64 s, .int .i64 wd]] w fun e w' => e = .returned (.pointer none) ∧ Below w.heap.size w w' := by
  unfold pend at hst
  go_enter Yba.func6, Yba.ntmps6
  go_wp2
  go_quiet (fail)
  go_wp2
  go_ret
  exact ⟨rfl, below_drewN ((Below.refl _ _).alloc (Nat.le_refl _) _) _⟩

set_option maxRecDepth 100000 in
set_option maxHeartbeats 400000 in
theorem over_fits (J : Nat) (st : ByteArray) (mn s wd m : Int) (one : Bool) (w : World) (hJ : J < w.heap.size) (c19 : w.cell? ⟨J, 19, none⟩ = some (.string st)) (hst : (st.toList == pend) = true)
    (c3 : w.cell? ⟨J, 3, none⟩ = some (.int .i64 mn)) (c14 : w.cell? ⟨J, 14, none⟩ = some (.bool one)) (hm : m = (if one then wd else s)) (hle : mn ≤ m) :
    Calls Yba.prog 6 #[.pointer (some ⟨J, 0, none⟩), .agg #[.int .i64 s, .int .i64 wd]] w fun e w' => e = .returned (.pointer none) ∧ Below w.heap.size w w' := by
  unfold pend at hst
  have hJ1 : J < w.heap.size + 1 := by omega
  have hJ2 : J < w.heap.size + 1 + 1 := by omega
  have HM : Hid (m = (if one then wd else s)) := hm
  clear hm
  go_enter Yba.func6, Yba.ntmps6
  go_wp2
  go_region_held3 (fun w' => w'.cell? ⟨J, 19, none⟩ = some (.string st) ∧ w'.cell? ⟨J, 3, none⟩ = some (.int .i64 mn) ∧ w'.cell? ⟨J, 14, none⟩ = some (.bool one) ∧ w'.cell? ⟨w.heap.size, 0, none⟩ = some (.int .i64 s) ∧ w'.cell? ⟨w.heap.size, 1, none⟩ = some (.int .i64 wd))
    (go_keep)
    (first | (go_at_call 11; refine (most_is s wd m one _ HM.out).mono ?_; rintro e w' ⟨rfl, rfl⟩))
  go_wp2
  go_ret
  exact ⟨rfl, (((Below.refl _ _).alloc (Nat.le_refl _) _).alloc (by simp) _).drew⟩

set_option maxRecDepth 100000 in
set_option maxHeartbeats 400000 in
theorem over_big (J : Nat) (st : ByteArray) (mn s wd m : Int) (one : Bool) (w : World) (hJ : J < w.heap.size) (c19 : w.cell? ⟨J, 19, none⟩ = some (.string st)) (hst : (st.toList == pend) = true)
    (c3 : w.cell? ⟨J, 3, none⟩ = some (.int .i64 mn)) (c14 : w.cell? ⟨J, 14, none⟩ = some (.bool one)) (hm : m = (if one then wd else s)) (hle : ¬ mn ≤ m) :
    Calls Yba.prog 6 #[.pointer (some ⟨J, 0, none⟩), .agg #[.int .i64 s, .int .i64 wd]] w fun e w' => ∃ g, e = .returned (.pointer (some ⟨g, 0, none⟩)) ∧ w.heap.size ≤ g ∧ Below w.heap.size w w' ∧
      w'.cell? ⟨g, 0, none⟩ = some (.int .i64 mn) ∧ w'.cell? ⟨g, 1, none⟩ = some (.int .i64 s) ∧ w'.cell? ⟨g, 2, none⟩ = some (.int .i64 wd) := by
  unfold pend at hst
  have hJ1 : J < w.heap.size + 1 := by omega
  have hJ2 : J < w.heap.size + 1 + 1 := by omega
  have HM : Hid (m = (if one then wd else s)) := hm
  clear hm
  go_enter Yba.func6, Yba.ntmps6
  go_wp2
  go_region_held3 (fun w' => w'.cell? ⟨J, 19, none⟩ = some (.string st) ∧ w'.cell? ⟨J, 3, none⟩ = some (.int .i64 mn) ∧ w'.cell? ⟨J, 14, none⟩ = some (.bool one) ∧ w'.cell? ⟨w.heap.size, 0, none⟩ = some (.int .i64 s) ∧ w'.cell? ⟨w.heap.size, 1, none⟩ = some (.int .i64 wd))
    (go_keep)
    (first | (go_at_call 11; refine (most_is s wd m one _ HM.out).mono ?_; rintro e w' ⟨rfl, rfl⟩))
  go_wp2
  go_region
  go_wp2
  go_ret
  refine ⟨_, rfl, by omega, ?_, ?_, ?_, ?_⟩
  · exact (((((Below.refl _ _).alloc (Nat.le_refl _) _).alloc (by simp) _).alloc (by simp; omega) _).drew).drew
  · simp [go_sem]
  · simp [go_sem]
  · simp [go_sem]

end Go.Proofs.Ybulkfreo.AWalk
