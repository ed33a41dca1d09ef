/-
  FLOATS THAT HOLD WHOLE NUMBERS BELOW 2^53: '+' and '-' are exact. Plain: no program.
-/
import Derived.Test.YbulkfqimFloat
namespace Go.Proofs.Ybulkfqim.Fl
open Ieee

theorem dbl_frac : double.fractionBits = 52 := rfl
theorem dbl_least : double.leastPlace = -1074 := by decide +kernel
theorem dbl_binade : double.binade = 4503599627370496 := by decide +kernel
theorem dbl_inf : double.infRung = 9218868437227405312 := by decide +kernel
theorem dbl_sign : double.signWeight = 9223372036854775808 := by decide +kernel

theorem cut_zero (neg : Bool) (n : Nat) : Toward.even.cut neg n 0 = n := by
  simp [Toward.cut, Nat.mod_one]

theorem log2_shift (q k : Nat) (hq : 0 < q) : (q * 2 ^ k).log2 = q.log2 + k := by
  induction k with
  | zero => simp
  | succ k ih =>
    have : 0 < q * 2 ^ k := Nat.mul_pos hq (Nat.two_pow_pos k)
    rw [show q * 2 ^ (k + 1) = 2 * (q * 2 ^ k) by rw [Nat.pow_succ]; ac_rfl, Nat.log2_two_mul (by omega), ih]
    omega

/-- Nothing is lost where what is dropped is nought. -/
theorem cut_exact (neg : Bool) (q k : Nat) (hq : 0 < q) : Toward.even.cut neg (q * 2 ^ k) k = q := by
  have hm : min k ((q * 2 ^ k).log2 + 2) = k := by rw [log2_shift q k hq]; omega
  have hp : 0 < 2 ^ k := Nat.two_pow_pos k
  simp [Toward.cut, hm, Nat.shiftLeft_eq, Nat.mul_div_cancel _ hp]

/-- The rung of the whole number N, 0 < N < 2^53. -/
def rungOf (N : Nat) : Nat := (N.log2 + 1022) * 4503599627370496 + N * 2 ^ (52 - N.log2)

theorem sig_bounds (N : Nat) (h0 : 0 < N) (h1 : N < 2 ^ 53) : N.log2 ≤ 52 ∧ 4503599627370496 ≤ N * 2 ^ (52 - N.log2) ∧ N * 2 ^ (52 - N.log2) < 9007199254740992 := by
  have hl : N.log2 < 53 := (Nat.log2_lt (by omega)).2 h1
  have ha : 2 ^ N.log2 ≤ N := Nat.log2_self_le (by omega)
  have hb : N < 2 ^ (N.log2 + 1) := Nat.lt_log2_self
  refine ⟨by omega, ?_, ?_⟩
  · calc 4503599627370496 = 2 ^ N.log2 * 2 ^ (52 - N.log2) := by rw [← Nat.pow_add, show N.log2 + (52 - N.log2) = 52 by omega]
      _ ≤ _ := Nat.mul_le_mul_right _ ha
  · calc N * 2 ^ (52 - N.log2) < 2 ^ (N.log2 + 1) * 2 ^ (52 - N.log2) := Nat.mul_lt_mul_of_pos_right hb (Nat.two_pow_pos _)
      _ = 9007199254740992 := by rw [← Nat.pow_add, show N.log2 + 1 + (52 - N.log2) = 53 by omega]

/-- The word nearest to the whole number N, said at whatever place below the point. -/
theorem nearest_int (neg : Bool) (N d : Nat) (h0 : 0 < N) (h1 : N < 2 ^ 53) : double.nearest neg (N * 2 ^ d) (-(d : Int)) = double.word neg (rungOf N) := by
  obtain ⟨hl, hlo, hhi⟩ := sig_bounds N h0 h1
  have hpos : 0 < N * 2 ^ d := Nat.mul_pos h0 (Nat.two_pow_pos d)
  have hlast : max (-(d : Int) + ((N * 2 ^ d).log2 : Nat) - (52 : Nat)) (-1074) = (N.log2 : Int) - 52 := by
    rw [log2_shift N d h0]; omega
  unfold Format.nearest
  rw [if_neg (by omega)]
  simp only [dbl_frac, dbl_least, dbl_binade, dbl_inf]
  rw [hlast]
  have hk : Toward.even.cut neg ((N * 2 ^ d) <<< (-(d : Int) - ((N.log2 : Int) - 52)).toNat) ((N.log2 : Int) - 52 - -(d : Int)).toNat = N * 2 ^ (52 - N.log2) := by
    by_cases hd : d + N.log2 ≤ 52
    · rw [show ((N.log2 : Int) - 52 - -(d : Int)).toNat = 0 by omega, show (-(d : Int) - ((N.log2 : Int) - 52)).toNat = 52 - N.log2 - d by omega, cut_zero, Nat.shiftLeft_eq, Nat.mul_assoc, ← Nat.pow_add]
      congr 2
      omega
    · rw [show ((N.log2 : Int) - 52 - -(d : Int)).toNat = d + N.log2 - 52 by omega, show (-(d : Int) - ((N.log2 : Int) - 52)).toNat = 0 by omega, Nat.shiftLeft_zero]
      rw [show N * 2 ^ d = N * 2 ^ (52 - N.log2) * 2 ^ (d + N.log2 - 52) by rw [Nat.mul_assoc, ← Nat.pow_add]; congr 2; omega]
      exact cut_exact neg _ _ (by omega)
  rw [hk, show ((N.log2 : Int) - 52 - -1074).toNat = N.log2 + 1022 by omega]
  unfold rungOf
  congr 1
  omega

theorem read_word (neg : Bool) (r : Nat) (h : r < 9218868437227405312) (hb : 4503599627370496 ≤ r) :
    double.read (double.word neg r) = .number neg (4503599627370496 + r % 4503599627370496) (-1074 + (r / 4503599627370496 - 1 : Nat)) := by
  have hr : double.word neg r % 9223372036854775808 = r := by
    unfold Format.word; rw [dbl_sign]; split <;> omega
  have hs : (double.word neg r / 9223372036854775808 % 2 == 1) = neg := by
    unfold Format.word; rw [dbl_sign]
    cases neg
    · simp; omega
    · simp; omega
  unfold Format.read
  simp only [dbl_least, dbl_binade, dbl_inf, dbl_sign]
  rw [hr, hs, if_neg (by omega), if_pos (by omega)]

/-- x reads as the whole number n. -/
def Rep (x : Nat) (n : Int) : Prop := ∃ s m, ∃ d : Nat, double.read x = .number s m (-(d : Int)) ∧ (if s then -(m : Int) else m) = n * 2 ^ d ∧ (n = 0 → s = false)

/-- float64(n). -/
def fl (n : Int) : Nat := floatOfInt .f64 n

theorem fl_eq (n : Int) : fl n = double.nearest (decide (n < 0)) n.natAbs 0 := rfl

theorem fl_zero : fl 0 = 0 := by decide +kernel

theorem fl_word (n : Int) (h0 : n ≠ 0) (h1 : n.natAbs < 2 ^ 53) : fl n = double.word (decide (n < 0)) (rungOf n.natAbs) := by
  rw [fl_eq, ← nearest_int (decide (n < 0)) n.natAbs 0 (by omega) h1]
  simp

theorem rep_fl (n : Int) (h1 : n.natAbs < 2 ^ 53) : Rep (fl n) n := by
  by_cases h0 : n = 0
  · subst h0
    rw [fl_zero]
    exact ⟨false, 0, 1074, by decide +kernel, by rw [Int.zero_mul]; rfl, fun _ => rfl⟩
  · obtain ⟨hl, hlo, hhi⟩ := sig_bounds n.natAbs (by omega) h1
    have hr1 : rungOf n.natAbs / 4503599627370496 = n.natAbs.log2 + 1023 := by unfold rungOf; omega
    have hr2 : 4503599627370496 + rungOf n.natAbs % 4503599627370496 = n.natAbs * 2 ^ (52 - n.natAbs.log2) := by unfold rungOf; omega
    refine ⟨decide (n < 0), n.natAbs * 2 ^ (52 - n.natAbs.log2), 52 - n.natAbs.log2, ?_, ?_, fun h => absurd h h0⟩
    · rw [fl_word n h0 h1, read_word _ _ (by unfold rungOf; omega) (by unfold rungOf; omega), hr1, hr2]
      have e : (-1074 : Int) + ((n.natAbs.log2 + 1023 - 1 : Nat) : Int) = -((52 - n.natAbs.log2 : Nat) : Int) := by omega
      rw [e]
    · rw [Int.natCast_mul, Int.natCast_pow]
      by_cases hn : n < 0
      · rw [decide_eq_true hn, if_pos rfl, show ((n.natAbs : Nat) : Int) = -n by omega]
        simp [Int.neg_mul]
      · rw [decide_eq_false hn, show ((n.natAbs : Nat) : Int) = n by omega]
        simp

/-- 'm * 2^up' with its sign, at a lower place. -/
theorem signed_at {s : Bool} {m d k : Nat} {n : Int} (h : (if s then -(m : Int) else m) = n * 2 ^ d) (hk : d ≤ k) : signed s m (-(d : Int) - -(k : Int)).toNat = n * 2 ^ k := by
  unfold signed
  rw [show (-(d : Int) - -(k : Int)).toNat = k - d by omega, Nat.shiftLeft_eq, Int.natCast_mul, Int.natCast_pow]
  have e : n * 2 ^ k = n * 2 ^ d * 2 ^ (k - d) := by rw [Int.mul_assoc, ← Int.pow_add, show d + (k - d) = k by omega]
  rw [e, ← h]
  cases s <;> simp [Int.neg_mul]

theorem write_sum {s t : Bool} {a b : Int} {m n d k : Nat} (hm : (if s then -(m : Int) else m) = a * 2 ^ d) (hn : (if t then -(n : Int) else n) = b * 2 ^ k)
    (hz : a + b = 0 → (s && t) = false) (hlt : (a + b).natAbs < 2 ^ 53) :
    ((Datum.number s m (-(d : Int))).sum (.number t n (-(k : Int)))).map double.write = some (fl (a + b)) := by
  obtain ⟨u, hu⟩ : ∃ u, u = max d k := ⟨_, rfl⟩
  have hbase : min (-(d : Int)) (-(k : Int)) = -(u : Int) := by omega
  simp only [Datum.sum, Option.map_some]
  rw [hbase, signed_at hm (by omega), signed_at hn (by omega), ← Int.add_mul]
  have hp : (0 : Int) < 2 ^ u := Int.pow_pos (by omega)
  by_cases h0 : a + b = 0
  · rw [h0, Int.zero_mul, if_pos rfl, hz h0, fl_zero]
    show some (double.nearest false 0 (-(u : Int))) = some 0
    simp [Format.nearest, Format.word]
  · have hne : (a + b) * 2 ^ u ≠ 0 := by
      intro h
      rcases Int.mul_eq_zero.1 h with h | h
      · exact h0 h
      · omega
    rw [if_neg hne]
    have hneg : decide ((a + b) * 2 ^ u < 0) = decide (a + b < 0) := by
      rw [decide_eq_decide]
      constructor
      · intro h
        by_cases hc : a + b < 0
        · exact hc
        · have : 0 ≤ (a + b) * 2 ^ u := Int.mul_nonneg (by omega) (by omega)
          omega
      · intro h
        exact Int.mul_neg_of_neg_of_pos h hp
    rw [hneg, Int.natAbs_mul, Int.natAbs_pow]
    show some (double.nearest (decide (a + b < 0)) ((a + b).natAbs * (2 : Int).natAbs ^ u) (-(u : Int))) = _
    rw [show (2 : Int).natAbs = 2 from rfl, nearest_int _ _ _ (by omega) hlt, fl_word _ h0 hlt]

theorem sign_of {s : Bool} {m d : Nat} {a : Int} (h : (if s then -(m : Int) else m) = a * 2 ^ d) (h0 : a ≠ 0) : s = decide (a < 0) := by
  have hp : (0 : Int) < 2 ^ d := Int.pow_pos (by omega)
  cases s
  · symm
    rw [decide_eq_false_iff_not]
    intro hn
    have := Int.mul_neg_of_neg_of_pos hn hp
    simp at h
    omega
  · symm
    rw [decide_eq_true_iff]
    by_cases hc : a < 0
    · exact hc
    · have : 0 < a * 2 ^ d := Int.mul_pos (by omega) hp
      simp at h
      omega

theorem add_rep {x y : Nat} {a b : Int} (hx : Rep x a) (hy : Rep y b) (hlt : (a + b).natAbs < 2 ^ 53) : floatBits .add .f64 x y = some (fl (a + b)) := by
  obtain ⟨s, m, d, rx, vx, zx⟩ := hx
  obtain ⟨t, n, k, ry, vy, zy⟩ := hy
  show double.add x y = _
  unfold Format.add
  rw [rx, ry]
  refine write_sum vx vy (fun h => ?_) hlt
  by_cases h0 : a = 0
  · rw [zx h0]; rfl
  · rw [sign_of vx h0, sign_of vy (by omega)]
    by_cases hc : a < 0
    · rw [decide_eq_false (show ¬ b < 0 by omega)]; simp
    · rw [decide_eq_false hc]; rfl

theorem sub_rep {x y : Nat} {a b : Int} (hx : Rep x a) (hy : Rep y b) (hlt : (a - b).natAbs < 2 ^ 53) : floatBits .sub .f64 x y = some (fl (a - b)) := by
  obtain ⟨s, m, d, rx, vx, zx⟩ := hx
  obtain ⟨t, n, k, ry, vy, zy⟩ := hy
  show double.sub x y = _
  unfold Format.sub
  rw [rx, ry]
  have vy' : (if !t then -(n : Int) else n) = -b * 2 ^ k := by
    rw [Int.neg_mul, ← vy]; cases t <;> simp
  rw [show a - b = a + -b by omega] at hlt ⊢
  refine write_sum vx vy' (fun h => ?_) hlt
  by_cases h0 : a = 0
  · rw [zx h0]; rfl
  · rw [sign_of vx h0, sign_of vy (by omega), show b = a by omega]
    simp

/-- One step of Kahan's sum over whole numbers: exact, and nothing is carried. -/
theorem kahan_exact {p a : Int} {r1 r2 : Nat} (hp : p.natAbs < 2 ^ 53) (ha : a.natAbs < 2 ^ 53) (hs : (p + a).natAbs < 2 ^ 53) (h : Kahan (fl p) 0 (fl a) r1 r2) : r1 = fl (p + a) ∧ r2 = 0 := by
  obtain ⟨y, t, h1, h2, h3, h4⟩ := h
  have use : ∀ {op : BinOp} {x y r v : Nat}, Gives op x y r → floatBits op .f64 x y = some v → r = v := by
    intro op x y r v hg hv
    rcases hg with hg | ⟨hg, _⟩
    · rw [hv] at hg; injection hg with hg; exact hg.symm
    · rw [hv] at hg; cases hg
  have z0 : Rep 0 0 := by have := rep_fl 0 (by decide); rwa [fl_zero] at this
  have ra := rep_fl a ha
  have rp := rep_fl p hp
  have rs := rep_fl (p + a) hs
  have e1 := use h1 (sub_rep ra z0 (by simpa using ha))
  rw [Int.sub_zero] at e1
  subst e1
  have e2 := use h2 (add_rep rp ra hs)
  subst e2
  have e3 := use h3 (sub_rep rs rp (by rw [show p + a - p = a by omega]; exact ha))
  rw [show p + a - p = a by omega] at e3
  subst e3
  have e4 := use h4 (sub_rep ra ra (by rw [Int.sub_self]; decide))
  rw [Int.sub_self, fl_zero] at e4
  exact ⟨rfl, e4⟩

/-- A whole number is equal to itself. -/
theorem order_fl (n : Int) (h : n.natAbs < 2 ^ 53) : (FloatKind.f64.format.order (fl n) (fl n) != some .eq) = false := by
  apply order_num
  obtain ⟨s, m, d, hr, _⟩ := rep_fl n h
  unfold nan
  rw [hr]
  simp [Datum.isNaN]

end Go.Proofs.Ybulkfqim.Fl
