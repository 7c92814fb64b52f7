/- PLAIN LAWS ON DOUBLES, over the model's own 'Ieee': what 'nearest' gives where the number is exact; that it hangs on the value alone. No Go in sight. -/
import Ieee.Arith
namespace Go.Proofs.Qxb6002620a.Fl
open Ieee

/-- What a word stands for, in plain numbers. -/
theorem read_eq (x : Nat) : double.read x =
    (if x % 2 ^ 63 < 2 ^ 52 then .number (x / 2 ^ 63 % 2 == 1) (x % 2 ^ 63) (-1074)
     else if x % 2 ^ 63 < 2047 * 2 ^ 52 then .number (x / 2 ^ 63 % 2 == 1) (2 ^ 52 + x % 2 ^ 63 % 2 ^ 52) (-1074 + ((x % 2 ^ 63 / 2 ^ 52 - 1 : Nat) : Int))
     else if x % 2 ^ 63 = 2047 * 2 ^ 52 then .infinity (x / 2 ^ 63 % 2 == 1)
     else .nan (x / 2 ^ 63 % 2 == 1) (x % 2 ^ 63 - 2047 * 2 ^ 52)) := rfl

theorem shl (a b : Nat) : a <<< b = a * 2 ^ b := Nat.shiftLeft_eq a b

theorem log2_mul_pow (m k : Nat) (hm : m ≠ 0) : (m * 2 ^ k).log2 = m.log2 + k := by
  have hp : 0 < 2 ^ k := Nat.two_pow_pos k
  have h0 : m * 2 ^ k ≠ 0 := by
    have := Nat.mul_pos (Nat.pos_of_ne_zero hm) hp; omega
  rw [Nat.log2_eq_iff h0]
  constructor
  · rw [Nat.pow_add]; exact Nat.mul_le_mul_right _ (Nat.log2_self_le hm)
  · rw [show m.log2 + k + 1 = (m.log2 + 1) + k from by omega, Nat.pow_add]
    exact (Nat.mul_lt_mul_right hp).2 Nat.lt_log2_self

/-- 'n / 2 ^ d' to the nearest, ties to even: without the short cut. -/
def cutE (n d : Nat) : Nat := n / 2 ^ d + (decide (2 ^ d < 2 * (n % 2 ^ d)) || (2 ^ d == 2 * (n % 2 ^ d) && n / 2 ^ d % 2 == 1)).toNat

theorem cut_even (neg : Bool) (n d : Nat) : Toward.even.cut neg n d = cutE n d := by
  unfold Toward.cut cutE
  simp only [shl, Nat.one_mul]
  by_cases h : d ≤ n.log2 + 2
  · rw [Nat.min_eq_left h]
  · have h1 : n < 2 ^ (n.log2 + 1) := Nat.lt_log2_self
    have h2 : 2 ^ (n.log2 + 2) = 2 * 2 ^ (n.log2 + 1) := by rw [Nat.pow_succ]; omega
    have h3 : 2 ^ (n.log2 + 2) ≤ 2 ^ d := Nat.pow_le_pow_right (by omega) (by omega)
    rw [Nat.min_eq_right (by omega)]
    rw [Nat.div_eq_of_lt (show n < 2 ^ (n.log2 + 2) by omega), Nat.div_eq_of_lt (show n < 2 ^ d by omega), Nat.mod_eq_of_lt (show n < 2 ^ (n.log2 + 2) by omega), Nat.mod_eq_of_lt (show n < 2 ^ d by omega)]
    have e1 : decide (2 ^ (n.log2 + 2) < 2 * n) = false := decide_eq_false (by omega)
    have e2 : decide (2 ^ d < 2 * n) = false := decide_eq_false (by omega)
    simp [e1, e2]

theorem cut_down_pos (n d : Nat) : Toward.down.cut false n d = n / 2 ^ d := by
  unfold Toward.cut
  simp only [shl, Nat.one_mul, Bool.false_and, Bool.toNat_false, Nat.add_zero]
  by_cases h : d ≤ n.log2 + 2
  · rw [Nat.min_eq_left h]
  · have h1 : n < 2 ^ (n.log2 + 1) := Nat.lt_log2_self
    have h2 : 2 ^ (n.log2 + 2) = 2 * 2 ^ (n.log2 + 1) := by rw [Nat.pow_succ]; omega
    have h3 : 2 ^ (n.log2 + 2) ≤ 2 ^ d := Nat.pow_le_pow_right (by omega) (by omega)
    rw [Nat.min_eq_right (by omega), Nat.div_eq_of_lt (by omega), Nat.div_eq_of_lt (by omega)]

theorem cut_down_neg (n d : Nat) : Toward.down.cut true n d = n / 2 ^ d + (n % 2 ^ d != 0).toNat := by
  unfold Toward.cut
  simp only [shl, Nat.one_mul, Bool.true_and]
  by_cases h : d ≤ n.log2 + 2
  · rw [Nat.min_eq_left h]
  · have h1 : n < 2 ^ (n.log2 + 1) := Nat.lt_log2_self
    have h2 : 2 ^ (n.log2 + 2) = 2 * 2 ^ (n.log2 + 1) := by rw [Nat.pow_succ]; omega
    have h3 : 2 ^ (n.log2 + 2) ≤ 2 ^ d := Nat.pow_le_pow_right (by omega) (by omega)
    rw [Nat.min_eq_right (by omega), Nat.div_eq_of_lt (by omega), Nat.div_eq_of_lt (show n < 2 ^ d by omega), Nat.mod_eq_of_lt (by omega), Nat.mod_eq_of_lt (show n < 2 ^ d by omega)]

theorem cut_zero_zero (neg : Bool) (n : Nat) : Toward.zero.cut neg n 0 = n := by
  unfold Toward.cut
  simp

theorem cutE_zero (n : Nat) : cutE n 0 = n := by
  unfold cutE
  simp [Nat.mod_one]

theorem cutE_exact (m d : Nat) : cutE (m * 2 ^ d) d = m := by
  have hp : 0 < 2 ^ d := Nat.two_pow_pos d
  unfold cutE
  rw [Nat.mul_div_cancel _ hp, Nat.mul_mod_left]
  have e1 : (2 ^ d == 2 * 0) = false := beq_eq_false_iff_ne.2 (by omega)
  simp [e1]

theorem cutE_scale (n d k : Nat) : cutE (n * 2 ^ k) (d + k) = cutE n d := by
  have hk : 0 < 2 ^ k := Nat.two_pow_pos k
  unfold cutE
  rw [Nat.pow_add, Nat.mul_div_mul_right _ _ hk, Nat.mul_mod_mul_right]
  have e1 : decide (2 ^ d * 2 ^ k < 2 * (n % 2 ^ d * 2 ^ k)) = decide (2 ^ d < 2 * (n % 2 ^ d)) := by
    rw [← Nat.mul_assoc]
    exact decide_eq_decide.2 (Nat.mul_lt_mul_right hk)
  have e2 : (2 ^ d * 2 ^ k == 2 * (n % 2 ^ d * 2 ^ k)) = (2 ^ d == 2 * (n % 2 ^ d)) := by
    rw [← Nat.mul_assoc, Bool.eq_iff_iff, beq_iff_eq, beq_iff_eq]
    exact Nat.mul_left_inj (by omega)
  rw [e1, e2]

/-- The rung of the double nearest to 'mag * 2 ^ place', in plain words. -/
def rungOf (mag : Nat) (place : Int) : Nat :=
  min (((max (place + mag.log2 - 52) (-1074)) + 1074).toNat * 2 ^ 52 + cutE (mag * 2 ^ (place - (max (place + mag.log2 - 52) (-1074))).toNat) ((max (place + mag.log2 - 52) (-1074)) - place).toNat) (2047 * 2 ^ 52)

theorem nearest_eq (neg : Bool) (mag : Nat) (place : Int) (hm : mag ≠ 0) : double.nearest neg mag place = double.word neg (rungOf mag place) := by
  unfold Format.nearest rungOf
  rw [if_neg hm]
  simp only [cut_even, shl]
  rfl

theorem nearest_zero (neg : Bool) (place : Int) : double.nearest neg 0 place = double.word neg 0 := rfl

/-- THE VALUE ALONE COUNTS. -/
theorem rungOf_scale (m k : Nat) (p : Int) (hm : m ≠ 0) : rungOf (m * 2 ^ k) p = rungOf m (p + k) := by
  unfold rungOf
  rw [log2_mul_pow m k hm]
  rw [show p + ((m.log2 + k : Nat) : Int) - 52 = p + (k : Int) + (m.log2 : Int) - 52 from by omega]
  generalize max (p + (k : Int) + (m.log2 : Int) - 52) (-1074) = L
  congr 2
  by_cases h1 : L ≤ p
  · rw [show (L - p).toNat = 0 from by omega, show (L - (p + k)).toNat = 0 from by omega, cutE_zero, cutE_zero, Nat.mul_assoc, ← Nat.pow_add]
    congr 2
    omega
  · by_cases h2 : L ≤ p + k
    · rw [show (L - (p + k)).toNat = 0 from by omega, cutE_zero, show (p - L).toNat = 0 from by omega, Nat.pow_zero, Nat.mul_one]
      rw [show k = (p + k - L).toNat + (L - p).toNat from by omega, Nat.pow_add, ← Nat.mul_assoc, cutE_exact]
      congr 2
      omega
    · rw [show (p - L).toNat = 0 from by omega, show (p + k - L).toNat = 0 from by omega, Nat.pow_zero, Nat.mul_one, Nat.mul_one]
      rw [show (L - p).toNat = (L - (p + k)).toNat + k from by omega, cutE_scale]

theorem nearest_scale (neg : Bool) (m k : Nat) (p : Int) : double.nearest neg (m * 2 ^ k) p = double.nearest neg m (p + k) := by
  by_cases hm : m = 0
  · subst hm; rw [Nat.zero_mul, nearest_zero, nearest_zero]
  · have : m * 2 ^ k ≠ 0 := by have := Nat.mul_pos (Nat.pos_of_ne_zero hm) (Nat.two_pow_pos k); omega
    rw [nearest_eq _ _ _ this, nearest_eq _ _ _ hm, rungOf_scale _ _ _ hm]

end Go.Proofs.Qxb6002620a.Fl
