/- MORE PLAIN LAWS ON DOUBLES: values as whole numbers of units of 2 ^ -1074; order, sums. -/
import Derived.Test.Qxb6002620aIeee
namespace Go.Proofs.Qxb6002620a.Fl
open Ieee

/-- A number as a whole number of units of 2 ^ -1074. -/
def SV (s : Bool) (m : Nat) (i : Int) : Int := if s then -((m * 2 ^ (i + 1074).toNat : Nat) : Int) else ((m * 2 ^ (i + 1074).toNat : Nat) : Int)

theorem signed_eq (s : Bool) (m up : Nat) : signed s m up = (if s then -((m * 2 ^ up : Nat) : Int) else ((m * 2 ^ up : Nat) : Int)) := by
  unfold signed
  rw [shl]

theorem signed_mul (s : Bool) (m a b : Nat) : signed s m a * ((2 ^ b : Nat) : Int) = signed s m (a + b) := by
  rw [signed_eq, signed_eq, Nat.pow_add, ← Nat.mul_assoc]
  cases s
  · simp only [Bool.false_eq_true, if_false]; push_cast; rfl
  · simp only [if_true]; push_cast; rw [Int.neg_mul]

theorem signed_SV (s : Bool) (m : Nat) (i b : Int) (hb : -1074 ≤ b) (hi : b ≤ i) : signed s m (i - b).toNat * ((2 ^ (b + 1074).toNat : Nat) : Int) = SV s m i := by
  rw [signed_mul, signed_eq, show (i - b).toNat + (b + 1074).toNat = (i + 1074).toNat from by omega]
  rfl

theorem compare_mul (a b : Int) (k : Nat) : compare a b = compare (a * ((2 ^ k : Nat) : Int)) (b * ((2 ^ k : Nat) : Int)) := by
  have hk : (0 : Int) < ((2 ^ k : Nat) : Int) := by have := Nat.two_pow_pos k; omega
  rcases Int.lt_trichotomy a b with h | h | h
  · rw [Int.compare_eq_lt.2 h, Int.compare_eq_lt.2 (Int.mul_lt_mul_of_pos_right h hk)]
  · rw [h]; simp
  · rw [Int.compare_eq_gt.2 h, Int.compare_eq_gt.2 (Int.mul_lt_mul_of_pos_right h hk)]

theorem order_SV (s t : Bool) (m n : Nat) (i j : Int) (hi : -1074 ≤ i) (hj : -1074 ≤ j) :
    Datum.order (.number s m i) (.number t n j) = some (compare (SV s m i) (SV t n j)) := by
  unfold Datum.order
  simp only
  rw [compare_mul _ _ (min i j + 1074).toNat, signed_SV s m i _ (by omega) (by omega), signed_SV t n j _ (by omega) (by omega)]

/-- The word of a whole number of units of 2 ^ -1074. -/
def enc (A : Int) : Nat := double.nearest (decide (A < 0)) A.natAbs (-1074)

theorem nearest_val (t : Bool) (m1 m2 : Nat) (p1 p2 : Int) (h1 : -1074 ≤ p1) (h2 : -1074 ≤ p2) (h : m1 * 2 ^ (p1 + 1074).toNat = m2 * 2 ^ (p2 + 1074).toNat) : double.nearest t m1 p1 = double.nearest t m2 p2 := by
  have key : ∀ (m1 m2 : Nat) (p1 p2 : Int), -1074 ≤ p1 → p1 ≤ p2 → m1 * 2 ^ (p1 + 1074).toNat = m2 * 2 ^ (p2 + 1074).toNat → double.nearest t m1 p1 = double.nearest t m2 p2 := by
    intro m1 m2 p1 p2 h1 h2 h
    rw [show (p2 + 1074).toNat = (p2 - p1).toNat + (p1 + 1074).toNat from by omega, Nat.pow_add, ← Nat.mul_assoc] at h
    have := Nat.eq_of_mul_eq_mul_right (Nat.two_pow_pos _) h
    rw [this, nearest_scale]
    congr 1
    omega
  rcases Int.le_total p1 p2 with hp | hp
  · exact key m1 m2 p1 p2 h1 hp h
  · exact (key m2 m1 p2 p1 h2 hp h.symm).symm

theorem natAbs_SV (s : Bool) (m : Nat) (i : Int) : (SV s m i).natAbs = m * 2 ^ (i + 1074).toNat := by
  unfold SV
  cases s
  · rw [if_neg Bool.false_ne_true, Int.natAbs_natCast]
  · rw [if_pos rfl, Int.natAbs_neg, Int.natAbs_natCast]

/-- A sum of two numbers, written. -/
theorem sum_write (s t : Bool) (m n : Nat) (i j : Int) (hi : -1074 ≤ i) (hj : -1074 ≤ j) (A : Int) (hA : SV s m i + SV t n j = A) :
    ((Datum.number s m i).sum (.number t n j)).map double.write = some (if A = 0 then double.word (s && t) 0 else enc A) := by
  have hB := hA
  rw [← signed_SV s m i (min i j) (by omega) (by omega), ← signed_SV t n j (min i j) (by omega) (by omega), ← Int.add_mul] at hB
  simp only [Datum.sum, Option.map_some, Format.write]
  generalize signed s m (i - min i j).toNat + signed t n (j - min i j).toNat = T at *
  have hp : (0 : Int) < ((2 ^ (min i j + 1074).toNat : Nat) : Int) := by have := Nat.two_pow_pos (min i j + 1074).toNat; omega
  by_cases hT : T = 0
  · have hA0 : A = 0 := by rw [← hB, hT, Int.zero_mul]
    rw [if_pos hT, if_pos hA0, hT]
    rfl
  · have hA0 : A ≠ 0 := by
      rw [← hB]
      exact Int.mul_ne_zero hT (by omega)
    rw [if_neg hT, if_neg hA0]
    unfold enc
    have hs : decide (T < 0) = decide (A < 0) := by
      rw [decide_eq_decide, ← hB]
      constructor
      · intro h; exact Int.mul_neg_of_neg_of_pos h hp
      · intro h
        by_cases h' : T < 0
        · exact h'
        · have := Int.mul_nonneg (Int.not_lt.1 h') (Int.le_of_lt hp); omega
    rw [hs]
    congr 1
    refine nearest_val _ _ _ _ _ (by omega) (by omega) ?_
    rw [← hB, Int.natAbs_mul]
    simp

theorem word_div (neg : Bool) (r : Nat) (h : r < 2 ^ 63) : (double.word neg r) % 2 ^ 63 = r ∧ (double.word neg r / 2 ^ 63 % 2 == 1) = neg := by
  have e : double.word neg r = if neg then 2 ^ 63 + r else r := rfl
  rw [e]
  cases neg
  · rw [if_neg Bool.false_ne_true]
    refine ⟨Nat.mod_eq_of_lt h, ?_⟩
    rw [Nat.div_eq_of_lt h]; rfl
  · rw [if_pos rfl]
    refine ⟨by rw [Nat.add_mod_left, Nat.mod_eq_of_lt h], ?_⟩
    rw [Nat.add_div_left _ (by decide), Nat.div_eq_of_lt h]; rfl

/-- The word of a finite rung, read. -/
theorem read_word (neg : Bool) (r : Nat) (h : r < 2047 * 2 ^ 52) :
    double.read (double.word neg r) = (if r < 2 ^ 52 then .number neg r (-1074) else .number neg (2 ^ 52 + r % 2 ^ 52) (-1074 + ((r / 2 ^ 52 - 1 : Nat) : Int))) := by
  obtain ⟨h1, h2⟩ := word_div neg r (by omega)
  rw [read_eq, h1, h2]
  by_cases h3 : r < 2 ^ 52
  · rw [if_pos h3, if_pos h3]
  · rw [if_neg h3, if_neg h3, if_pos h]

theorem cutE_ge (n d : Nat) : n / 2 ^ d ≤ cutE n d := by unfold cutE; omega

/-- A number of at most 53 digits is written exactly. -/
theorem read_enc_exact (t : Bool) (mag k : Nat) (hm : mag < 2 ^ 53) (hk : k ≤ 2000) :
    ∃ n j, double.read (double.nearest t (mag * 2 ^ k) (-1074)) = .number t n j ∧ -1074 ≤ j ∧ n * 2 ^ (j + 1074).toNat = mag * 2 ^ k := by
  rw [nearest_scale]
  by_cases h0 : mag = 0
  · subst h0
    refine ⟨0, -1074, ?_, by omega, by simp⟩
    rw [nearest_zero, read_word _ _ (by decide), if_pos (by decide)]
  · rw [nearest_eq _ _ _ h0]
    have hl : mag.log2 < 53 := (Nat.log2_lt h0).2 hm
    have hself := Nat.log2_self_le h0
    have hlt : mag < 2 ^ (mag.log2 + 1) := Nat.lt_log2_self
    unfold rungOf
    generalize hL : max (-1074 + (k : Int) + (mag.log2 : Int) - 52) (-1074) = L
    have hL1 : L ≤ -1074 + (k : Int) := by omega
    have hL2 : -1074 ≤ L := by omega
    rw [show (L - (-1074 + (k : Int))).toNat = 0 from by omega, cutE_zero]
    by_cases hc : (k : Int) + mag.log2 ≤ 52
    · have e : L = -1074 := by omega
      subst e
      rw [show (-1074 + (k : Int) - -1074).toNat = k from by omega, show ((-1074 : Int) + 1074).toNat = 0 from rfl, Nat.zero_mul, Nat.zero_add]
      have hb : mag * 2 ^ k < 2 ^ 53 := by
        calc mag * 2 ^ k < 2 ^ (mag.log2 + 1) * 2 ^ k := (Nat.mul_lt_mul_right (Nat.two_pow_pos k)).2 hlt
          _ = 2 ^ (mag.log2 + 1 + k) := (Nat.pow_add ..).symm
          _ ≤ 2 ^ 53 := Nat.pow_le_pow_right (by decide) (by omega)
      generalize mag * 2 ^ k = M at *
      rw [Nat.min_eq_left (by omega), read_word _ _ (by omega)]
      by_cases hM : M < 2 ^ 52
      · rw [if_pos hM]
        exact ⟨M, -1074, rfl, by omega, by simp⟩
      · rw [if_neg hM]
        refine ⟨_, _, rfl, by omega, ?_⟩
        have h1 : M / 2 ^ 52 = 1 := by omega
        rw [h1]
        simp
        omega
    · have e : L = -1074 + (k : Int) + (mag.log2 : Int) - 52 := by omega
      have hu : (-1074 + (k : Int) - L).toNat = 52 - mag.log2 := by omega
      rw [hu]
      have lo : 2 ^ 52 ≤ mag * 2 ^ (52 - mag.log2) := by
        calc 2 ^ 52 = 2 ^ mag.log2 * 2 ^ (52 - mag.log2) := by rw [← Nat.pow_add]; congr 1; omega
          _ ≤ mag * 2 ^ (52 - mag.log2) := Nat.mul_le_mul_right _ hself
      have hi : mag * 2 ^ (52 - mag.log2) < 2 ^ 53 := by
        calc mag * 2 ^ (52 - mag.log2) < 2 ^ (mag.log2 + 1) * 2 ^ (52 - mag.log2) := (Nat.mul_lt_mul_right (Nat.two_pow_pos _)).2 hlt
          _ = 2 ^ 53 := by rw [← Nat.pow_add]; congr 1; omega
      have hv : mag * 2 ^ (52 - mag.log2) * 2 ^ (k - (52 - mag.log2)) = mag * 2 ^ k := by
        rw [Nat.mul_assoc, ← Nat.pow_add]; congr 2; omega
      rw [← hv]
      have hq : (L + 1074).toNat = k - (52 - mag.log2) := by omega
      rw [hq]
      have hk2 : k - (52 - mag.log2) ≤ 2000 := by omega
      generalize mag * 2 ^ (52 - mag.log2) = M at *
      generalize k - (52 - mag.log2) = c at *
      rw [Nat.min_eq_left (by omega), read_word _ _ (by omega), if_neg (by omega)]
      refine ⟨_, _, rfl, by omega, ?_⟩
      have h1 : (c * 2 ^ 52 + M) / 2 ^ 52 = c + 1 := by omega
      have h2 : (c * 2 ^ 52 + M) % 2 ^ 52 = M - 2 ^ 52 := by omega
      rw [h1, h2, show 2 ^ 52 + (M - 2 ^ 52) = M from by omega, show (-1074 + ((c + 1 - 1 : Nat) : Int) + 1074).toNat = c from by omega]

/-- A number that is not less than one half is not written as less ('e' is 1073: a letter, so that no such power is reckoned out). -/
theorem read_enc_half (e : Nat) (he : e = 1073) (mag : Nat) (h : 2 ^ e ≤ mag) (h2 : mag ≤ 2 ^ (e + 1)) :
    ∃ n j, double.read (double.nearest false mag (-1074)) = .number false n j ∧ -1074 ≤ j ∧ 2 ^ e ≤ n * 2 ^ (j + 1074).toNat := by
  have h0 : mag ≠ 0 := by have := Nat.two_pow_pos e; omega
  have l1 : e ≤ mag.log2 := (Nat.le_log2 h0).2 h
  have l2 : mag.log2 ≤ e + 1 := by
    have : mag.log2 < e + 2 := (Nat.log2_lt h0).2 (Nat.lt_of_le_of_lt h2 (Nat.pow_lt_pow_right (by decide) (by omega)))
    omega
  have hself := Nat.log2_self_le h0
  have hlt : mag < 2 ^ (mag.log2 + 1) := Nat.lt_log2_self
  rw [nearest_eq _ _ _ h0]
  unfold rungOf
  rw [show max (-1074 + (mag.log2 : Int) - 52) (-1074) = -1074 + (mag.log2 : Int) - 52 from by omega]
  rw [show (-1074 - (-1074 + (mag.log2 : Int) - 52)).toNat = 0 from by omega, show (-1074 + (mag.log2 : Int) - 52 - -1074).toNat = mag.log2 - 52 from by omega, show (-1074 + (mag.log2 : Int) - 52 + 1074).toNat = mag.log2 - 52 from by omega, Nat.pow_zero, Nat.mul_one]
  have lo : 2 ^ 52 ≤ mag / 2 ^ (mag.log2 - 52) := by
    rw [Nat.le_div_iff_mul_le (Nat.two_pow_pos _), ← Nat.pow_add]
    rw [show 52 + (mag.log2 - 52) = mag.log2 from by omega]
    exact hself
  have hi : mag / 2 ^ (mag.log2 - 52) < 2 ^ 53 := by
    rw [Nat.div_lt_iff_lt_mul (Nat.two_pow_pos _), ← Nat.pow_add]
    rw [show 53 + (mag.log2 - 52) = mag.log2 + 1 from by omega]
    exact hlt
  have ge := cutE_ge mag (mag.log2 - 52)
  have le : cutE mag (mag.log2 - 52) ≤ mag / 2 ^ (mag.log2 - 52) + 1 := by
    unfold cutE
    have : ∀ b : Bool, b.toNat ≤ 1 := by decide
    have := this (decide (2 ^ (mag.log2 - 52) < 2 * (mag % 2 ^ (mag.log2 - 52))) || (2 ^ (mag.log2 - 52) == 2 * (mag % 2 ^ (mag.log2 - 52)) && mag / 2 ^ (mag.log2 - 52) % 2 == 1))
    omega
  generalize cutE mag (mag.log2 - 52) = C at *
  generalize mag / 2 ^ (mag.log2 - 52) = Q at *
  generalize mag.log2 = l at *
  rw [Nat.min_eq_left (by omega), read_word _ _ (by omega), if_neg (by omega)]
  refine ⟨_, _, rfl, by omega, ?_⟩
  have hr : 1022 ≤ ((l - 52) * 2 ^ 52 + C) / 2 ^ 52 := by omega
  generalize ((l - 52) * 2 ^ 52 + C) / 2 ^ 52 = r at *
  generalize ((l - 52) * 2 ^ 52 + C) % 2 ^ 52 = f at *
  calc 2 ^ e = 2 ^ 52 * 2 ^ (e - 52) := by rw [← Nat.pow_add]; congr 1; omega
    _ ≤ (2 ^ 52 + f) * 2 ^ (-1074 + ((r - 1 : Nat) : Int) + 1074).toNat := Nat.mul_le_mul (by omega) (Nat.pow_le_pow_right (by decide) (by omega))

end Go.Proofs.Qxb6002620a.Fl
