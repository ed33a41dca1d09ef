/-
  FLOATS: what '+', '-' give, up to which NaN; two floats that are 'the same' (the same bits, or both a NaN).
-/
import Derived.Laws.FloatArith
import Derived.Deep.Draws
import Derived.Laws.Sem
import Derived.WalkKit
namespace Go.Proofs.Ybulkfqim.Fl
open Go.RowKit

/-- x is a NaN. -/
def nan (x : Nat) : Prop := (Ieee.double.read x).isNaN = true

/-- The same bits, or both a NaN. -/
def Same (x y : Nat) : Prop := x = y ∨ (nan x ∧ nan y)

theorem Same.refl (x : Nat) : Same x x := .inl rfl
theorem Same.symm {x y : Nat} (h : Same x y) : Same y x := by
  rcases h with h | ⟨a, b⟩
  · exact .inl h.symm
  · exact .inr ⟨b, a⟩

theorem order_nan {x : Nat} (h : nan x) : (FloatKind.f64.format.order x x != some .eq) = true := by
  unfold nan at h
  show (Ieee.Format.order Ieee.double x x != some .eq) = true
  unfold Ieee.Format.order
  generalize Ieee.double.read x = d at h
  cases d <;> simp_all [Ieee.Datum.isNaN, Ieee.Datum.order]

theorem order_num {x : Nat} (h : ¬ nan x) : (FloatKind.f64.format.order x x != some .eq) = false := by
  unfold nan at h
  show (Ieee.Format.order Ieee.double x x != some .eq) = false
  unfold Ieee.Format.order
  generalize Ieee.double.read x = d at h
  cases d <;> simp_all [Ieee.Datum.isNaN, Ieee.Datum.order, compare, compareOfLessAndEq]

/-- A NaN that the tape gives is one. -/
theorem nan_cut (x y t : Nat) : nan (Question.cut (.nanBits .f64 x y) t) := by
  show (Ieee.double.read ((t % 2) * 2 ^ 63 + 0x7ff0000000000000 + 1 + (t / 2) % (2 ^ 52 - 1))).isNaN = true
  have h1 : t % 2 < 2 := Nat.mod_lt _ (by decide)
  have h2 : (t / 2) % (2 ^ 52 - 1) < 2 ^ 52 - 1 := Nat.mod_lt _ (by decide)
  generalize t % 2 = a at h1
  generalize (t / 2) % (2 ^ 52 - 1) = b at h2
  have e : (a * 2 ^ 63 + 0x7ff0000000000000 + 1 + b) % Ieee.double.signWeight = 0x7ff0000000000000 + 1 + b := by
    show (a * 2 ^ 63 + 0x7ff0000000000000 + 1 + b) % 2 ^ 63 = _
    omega
  have hinf : Ieee.double.infRung = 0x7ff0000000000000 := by decide +kernel
  have hbin : Ieee.double.binade = 2 ^ 52 := rfl
  unfold Ieee.Format.read
  simp only [e, hinf, hbin]
  rw [if_neg (by omega), if_neg (by omega), if_neg (by omega)]
  rfl

/-- What an operation gives: the bits that IEEE 754 fixes, or some NaN. -/
def Gives (op : BinOp) (x y r : Nat) : Prop := floatBits op .f64 x y = some r ∨ (floatBits op .f64 x y = none ∧ nan r)

def plain (op : BinOp) : Prop := op = .add ∨ op = .sub

theorem sum_nan (d e : Ieee.Datum) (h : d.isNaN = true ∨ e.isNaN = true) : d.sum e = none := by
  cases d <;> cases e <;> simp_all [Ieee.Datum.isNaN, Ieee.Datum.sum]

theorem opp_nan (d : Ieee.Datum) : d.opposite.isNaN = d.isNaN := by cases d <;> rfl

theorem bits_nan {op : BinOp} (ho : plain op) {x y : Nat} (h : nan x ∨ nan y) : floatBits op .f64 x y = none := by
  unfold nan at h
  rcases ho with rfl | rfl
  · show Ieee.Format.add Ieee.double x y = none
    unfold Ieee.Format.add
    rw [sum_nan _ _ h]; rfl
  · show Ieee.Format.sub Ieee.double x y = none
    unfold Ieee.Format.sub
    rw [sum_nan _ _ (by rw [opp_nan]; exact h)]; rfl

/-- The same operands give the same result. -/
theorem Gives.same {op : BinOp} (ho : plain op) {x y r x' y' r' : Nat} (hx : Same x x') (hy : Same y y') (h : Gives op x y r) (h' : Gives op x' y' r') : Same r r' := by
  rcases hx with rfl | ⟨n1, n2⟩
  · rcases hy with rfl | ⟨n1, n2⟩
    · rcases h with h | ⟨h, n⟩ <;> rcases h' with h' | ⟨h', n'⟩
      · rw [h] at h'; exact .inl (by injection h')
      · rw [h] at h'; cases h'
      · rw [h] at h'; cases h'
      · exact .inr ⟨n, n'⟩
    · have e1 := bits_nan ho (x := x) (.inr n1)
      have e2 := bits_nan ho (x := x) (.inr n2)
      rcases h with h | ⟨_, n⟩
      · rw [e1] at h; cases h
      rcases h' with h' | ⟨_, n'⟩
      · rw [e2] at h'; cases h'
      exact .inr ⟨n, n'⟩
  · have e1 := bits_nan ho (y := y) (.inl n1)
    have e2 := bits_nan ho (y := y') (.inl n2)
    rcases h with h | ⟨_, n⟩
    · rw [e1] at h; cases h
    rcases h' with h' | ⟨_, n'⟩
    · rw [e2] at h'; cases h'
    exact .inr ⟨n, n'⟩

/-! ### The walk's law: an equation for every world -/
def res (w : World) (op : BinOp) (x y : Nat) : Nat :=
  match floatBits op .f64 x y with
  | some r => r
  | none => Question.cut (.nanBits .f64 x y) (w.tape w.drawn (.nanBits .f64 x y))
def cnt (op : BinOp) (x y : Nat) : Nat := if (floatBits op .f64 x y).isSome then 0 else 1

theorem gives_res (w : World) (op : BinOp) (x y : Nat) : Gives op x y (res w op x y) := by
  unfold Gives res
  cases h : floatBits op .f64 x y with
  | some r => exact .inl rfl
  | none => exact .inr ⟨rfl, nan_cut _ _ _⟩

theorem run_arith {P : Program} (op : BinOp) (ho : plain op) (t : TypeId) (x y : Nat) (w : World) :
    (binOp op t (.float .f64 x) (.float .f64 y)).run P w = .ok (.float .f64 (res w op x y)) (w.drewN (cnt op x y)) := by
  unfold res cnt
  cases h : floatBits op .f64 x y with
  | some r =>
    simp only [Option.isSome_some, if_true, World.drewN_zero]
    exact run_float_arith w op t .f64 x y r h
  | none =>
    simp only [Option.isSome_none]
    rcases ho with rfl | rfl <;> (unfold floatBits at h; simp only at h; simp [binOp, Op.floatArith, h, Question.forced]; rfl)

/-! ### One step of Kahan's sum -/
def Kahan (p c wt r1 r2 : Nat) : Prop := ∃ y t, Gives .sub wt c y ∧ Gives .add p y r1 ∧ Gives .sub r1 p t ∧ Gives .sub t y r2

theorem Kahan.same {p c wt r1 r2 r1' r2' : Nat} (h : Kahan p c wt r1 r2) (h' : Kahan p c wt r1' r2') : Same r1 r1' ∧ Same r2 r2' := by
  obtain ⟨y, t, a1, a2, a3, a4⟩ := h
  obtain ⟨y', t', b1, b2, b3, b4⟩ := h'
  have s1 := Gives.same (.inr rfl) (.refl _) (.refl _) a1 b1
  have s2 := Gives.same (.inl rfl) (.refl _) s1 a2 b2
  have s3 := Gives.same (.inr rfl) s2 (.refl _) a3 b3
  exact ⟨s2, Gives.same (.inr rfl) s3 s1 a4 b4⟩

end Go.Proofs.Ybulkfqim.Fl
