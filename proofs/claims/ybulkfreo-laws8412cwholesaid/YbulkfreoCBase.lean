import Derived.Test.YbulkfreoRows
import Derived.WalkKit
import Derived.WalkSpells
import Derived.WalkLawsBesides
import Derived.Below
import Derived.WalkSmall
import Derived.Deep.QuietTactic
import Derived.BigQuiet
import Derived.Deep.OwnRows
import Derived.Deep.MidRow
import Derived.Laws.FloatArith
namespace Go.Proofs.Ybulkfreo.CBase
open Go.RowKit
set_option linter.unusedVariables false

/-! ### Floats: a whole number over a whole number that is not 0 -/
section
open Ieee
theorem dbl_frac : double.fractionBits = 52 := rfl
theorem dbl_least : double.leastPlace = -1074 := by decide +kernel
theorem dbl_binade : double.binade = 4503599627370496 := by decide +kernel
theorem dbl_inf : double.infRung = 9218868437227405312 := by decide +kernel
theorem dbl_sign : double.signWeight = 9223372036854775808 := by decide +kernel

theorem read_word (neg : Bool) (r : Nat) (h : r < 9218868437227405312) (hb : 4503599627370496 ≤ r) :
    double.read (double.word neg r) = .number neg (4503599627370496 + r % 4503599627370496) (-1074 + (r / 4503599627370496 - 1 : Nat)) := by
  have hr : double.word neg r % 9223372036854775808 = r := by
    unfold Format.word; rw [dbl_sign]; split <;> omega
  have hs : (double.word neg r / 9223372036854775808 % 2 == 1) = neg := by
    unfold Format.word; rw [dbl_sign]
    cases neg
    · simp; omega
    · simp; omega
  unfold Format.read
  simp only [dbl_least, dbl_binade, dbl_inf, dbl_sign]
  rw [hr, hs, if_neg (by omega), if_pos (by omega)]

theorem cut_bounds (neg : Bool) (N d : Nat) (hd : d ≤ N.log2) : N / 2 ^ d ≤ Toward.even.cut neg N d ∧ Toward.even.cut neg N d ≤ N / 2 ^ d + 1 := by
  have hm : min d (N.log2 + 2) = d := by omega
  simp only [Toward.cut, hm, Nat.shiftLeft_eq, Nat.one_mul]
  generalize hb : (decide (2 ^ d < 2 * (N % 2 ^ d)) || (2 ^ d == 2 * (N % 2 ^ d) && N / 2 ^ d % 2 == 1)) = b
  have : b.toNat ≤ 1 := Bool.toNat_le b
  constructor <;> omega

/-- The word of a whole number below 2^64 that is not 0 is a number's, and not a zero's. -/
theorem nearest_number (neg : Bool) (N : Nat) (h0 : 0 < N) (h1 : N < 2 ^ 64) : ∃ m e, double.read (double.nearest neg N 0) = .number neg m e ∧ m ≠ 0 := by
  have hl : N.log2 < 64 := (Nat.log2_lt (by omega)).2 h1
  have ha : 2 ^ N.log2 ≤ N := Nat.log2_self_le (by omega)
  have hb : N < 2 ^ (N.log2 + 1) := Nat.lt_log2_self
  have hlast : max ((0 : Int) + (N.log2 : Nat) - (52 : Nat)) (-1074) = (N.log2 : Int) - 52 := by omega
  obtain ⟨kept, hk, k1, k2⟩ : ∃ kept, double.nearest neg N 0 = double.word neg ((N.log2 + 1022) * 4503599627370496 + kept) ∧ 4503599627370496 ≤ kept ∧ kept ≤ 9007199254740992 := by
    unfold Format.nearest
    rw [if_neg (by omega)]
    simp only [dbl_frac, dbl_least, dbl_binade, dbl_inf]
    rw [hlast]
    by_cases hc : N.log2 ≤ 52
    · rw [show ((N.log2 : Int) - 52 - 0).toNat = 0 by omega, show ((0 : Int) - ((N.log2 : Int) - 52)).toNat = 52 - N.log2 by omega, show ((N.log2 : Int) - 52 - -1074).toNat = N.log2 + 1022 by omega]
      have e : Toward.even.cut neg (N <<< (52 - N.log2)) 0 = N * 2 ^ (52 - N.log2) := by simp [Toward.cut, Nat.mod_one, Nat.shiftLeft_eq]
      rw [e]
      have b1 : 4503599627370496 ≤ N * 2 ^ (52 - N.log2) := by
        calc 4503599627370496 = 2 ^ N.log2 * 2 ^ (52 - N.log2) := by rw [← Nat.pow_add, show N.log2 + (52 - N.log2) = 52 by omega]
          _ ≤ _ := Nat.mul_le_mul_right _ ha
      have b2 : N * 2 ^ (52 - N.log2) < 9007199254740992 := by
        calc N * 2 ^ (52 - N.log2) < 2 ^ (N.log2 + 1) * 2 ^ (52 - N.log2) := Nat.mul_lt_mul_of_pos_right hb (Nat.two_pow_pos _)
          _ = 9007199254740992 := by rw [← Nat.pow_add, show N.log2 + 1 + (52 - N.log2) = 53 by omega]
      exact ⟨_, by rw [Nat.min_eq_left (by omega)], b1, by omega⟩
    · rw [show ((N.log2 : Int) - 52 - 0).toNat = N.log2 - 52 by omega, show ((0 : Int) - ((N.log2 : Int) - 52)).toNat = 0 by omega, show ((N.log2 : Int) - 52 - -1074).toNat = N.log2 + 1022 by omega, Nat.shiftLeft_zero]
      obtain ⟨c1, c2⟩ := cut_bounds neg N (N.log2 - 52) (by omega)
      have hp : 0 < 2 ^ (N.log2 - 52) := Nat.two_pow_pos _
      have b1 : 4503599627370496 ≤ N / 2 ^ (N.log2 - 52) := by
        rw [Nat.le_div_iff_mul_le hp]
        calc 4503599627370496 * 2 ^ (N.log2 - 52) = 2 ^ 52 * 2 ^ (N.log2 - 52) := rfl
          _ = 2 ^ N.log2 := by rw [← Nat.pow_add, show 52 + (N.log2 - 52) = N.log2 by omega]
          _ ≤ N := ha
      have b2 : N / 2 ^ (N.log2 - 52) < 9007199254740992 := by
        rw [Nat.div_lt_iff_lt_mul hp]
        calc N < 2 ^ (N.log2 + 1) := hb
          _ = 2 ^ 53 * 2 ^ (N.log2 - 52) := by rw [← Nat.pow_add, show 53 + (N.log2 - 52) = N.log2 + 1 by omega]
      exact ⟨_, by rw [Nat.min_eq_left (by omega)], by omega, by omega⟩
  rw [hk, read_word _ _ (by omega) (by omega)]
  exact ⟨_, _, rfl, by omega⟩

theorem read_fl (n : Int) (h : n.natAbs < 2 ^ 64) : ∃ s m e, double.read (floatOfInt .f64 n) = .number s m e ∧ (n ≠ 0 → m ≠ 0) := by
  by_cases h0 : n = 0
  · subst h0
    exact ⟨false, 0, -1074, by decide +kernel, fun h => absurd rfl h⟩
  · obtain ⟨m, e, hr, hm⟩ := nearest_number (decide (n < 0)) n.natAbs (by omega) h
    exact ⟨_, m, e, hr, fun _ => hm⟩

/-- float64(a) / float64(c), c not 0: a number, never a NaN. -/
theorem quo_some (a c : Int) (ha : a.natAbs < 2 ^ 64) (hc : c.natAbs < 2 ^ 64) (h0 : c ≠ 0) : ∃ r, floatBits .quo .f64 (floatOfInt .f64 a) (floatOfInt .f64 c) = some r := by
  obtain ⟨s, m, e, hr, _⟩ := read_fl a ha
  obtain ⟨t, n, f, hr', hn⟩ := read_fl c hc
  show ∃ r, double.div _ _ = some r
  unfold Format.div
  rw [hr, hr']
  simp only [Datum.quotient, if_neg (hn h0)]
  exact ⟨_, rfl⟩
end
end Go.Proofs.Ybulkfreo.CBase
