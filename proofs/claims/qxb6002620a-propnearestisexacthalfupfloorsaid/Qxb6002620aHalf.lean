/- THE PLAIN LAW OF 'nearest': floor, then the fraction held against one half. -/
import Derived.Test.Qxb6002620aIeee2
namespace Go.Proofs.Qxb6002620a.Fl
open Ieee

/-- The word stands for A units of 2 ^ -1074. -/
def Val (w : Nat) (A : Int) : Prop := ∃ t n j, double.read w = .number t n j ∧ -1074 ≤ j ∧ SV t n j = A

theorem Val.order {v w : Nat} {A B : Int} (h : Val v A) (k : Val w B) : double.order v w = some (compare A B) := by
  obtain ⟨s, m, i, e1, hi, rfl⟩ := h
  obtain ⟨t, n, j, e2, hj, rfl⟩ := k
  unfold Format.order
  rw [e1, e2]
  exact order_SV s t m n i j hi hj

theorem SV_of (s : Bool) (n : Nat) (j : Int) (M : Nat) (h : n * 2 ^ (j + 1074).toNat = M) : SV s n j = if s then -(M : Int) else (M : Int) := by
  unfold SV; rw [h]

theorem val_zero (b : Bool) : Val (double.word b 0) 0 := by
  refine ⟨b, 0, -1074, ?_, by omega, ?_⟩
  · rw [read_word _ _ (by decide), if_pos (by decide)]
  · unfold SV; cases b <;> simp

/-- A whole number of units that has at most 53 digits and some noughts behind. -/
theorem val_enc (T : Int) (k : Nat) (hT : T.natAbs < 2 ^ 53) (hk : k ≤ 2000) : Val (enc (T * ((2 ^ k : Nat) : Int))) (T * ((2 ^ k : Nat) : Int)) := by
  have hp : (0 : Int) < ((2 ^ k : Nat) : Int) := by have := Nat.two_pow_pos k; omega
  unfold enc
  rw [Int.natAbs_mul, Int.natAbs_natCast]
  obtain ⟨n, j, e, hj, hv⟩ := read_enc_exact (decide (T * ((2 ^ k : Nat) : Int) < 0)) T.natAbs k hT hk
  refine ⟨_, n, j, e, hj, ?_⟩
  rw [SV_of _ _ _ _ hv]
  by_cases h : T < 0
  · rw [decide_eq_true (Int.mul_neg_of_neg_of_pos h hp), if_pos rfl]
    push_cast
    rw [← Int.neg_mul]
    congr 1
    omega
  · have : ¬ (T * ((2 ^ k : Nat) : Int) < 0) := by have := Int.mul_nonneg (Int.not_lt.1 h) (Int.le_of_lt hp); omega
    rw [decide_eq_false this, if_neg Bool.false_ne_true]
    push_cast
    congr 1
    omega

/-- A whole number of at most 53 digits. -/
theorem val_whole (t : Bool) (q E : Nat) (hE : E = 1074) (hq : q < 2 ^ 53) : Val (double.nearest t q 0) ((if t then -(q : Int) else (q : Int)) * ((2 ^ E : Nat) : Int)) := by
  have e0 : double.nearest t q 0 = double.nearest t (q * 2 ^ E) (-1074) := by
    rw [nearest_scale]; congr 1; omega
  rw [e0]
  obtain ⟨n, j, e, hj, hv⟩ := read_enc_exact t q E hq (by omega)
  refine ⟨t, n, j, e, hj, ?_⟩
  rw [SV_of _ _ _ _ hv]
  cases t
  · simp
  · simp [Int.neg_mul]

theorem val_one (E : Nat) (hE : E = 1074) : Val 4607182418800017408 ((2 ^ E : Nat) : Int) := by
  refine ⟨false, 2 ^ 52, -52, by rfl, by omega, ?_⟩
  rw [SV_of false (2 ^ 52) (-52) (2 ^ E) ?_]
  · rfl
  · rw [← Nat.pow_add]; congr 1; omega

theorem val_half (e : Nat) (he : e = 1073) : Val 4602678819172646912 ((2 ^ e : Nat) : Int) := by
  refine ⟨false, 2 ^ 52, -53, by rfl, by omega, ?_⟩
  rw [SV_of false (2 ^ 52) (-53) (2 ^ e) ?_]
  · rfl
  · rw [← Nat.pow_add]; congr 1; omega

/-- A difference, written. -/
theorem val_sub {v w : Nat} {A B : Int} (h : Val v A) (k : Val w B) : ∃ b, double.sub v w = some (if A - B = 0 then double.word b 0 else enc (A - B)) := by
  obtain ⟨s, m, i, e1, hi, rfl⟩ := h
  obtain ⟨t, n, j, e2, hj, rfl⟩ := k
  refine ⟨s && !t, ?_⟩
  unfold Format.sub
  rw [e1, e2]
  refine sum_write s (!t) m n i j hi hj _ ?_
  have : SV (!t) n j = -SV t n j := by unfold SV; cases t <;> simp
  rw [this]; omega

/-- A sum, written. -/
theorem val_add {v w : Nat} {A B : Int} (h : Val v A) (k : Val w B) : ∃ b, double.add v w = some (if A + B = 0 then double.word b 0 else enc (A + B)) := by
  obtain ⟨s, m, i, e1, hi, rfl⟩ := h
  obtain ⟨t, n, j, e2, hj, rfl⟩ := k
  refine ⟨s && t, ?_⟩
  unfold Format.add
  rw [e1, e2]
  exact sum_write s t m n i j hi hj _ rfl

/-- m with its sign. -/
def sg (s : Bool) (m : Nat) : Int := if s then -(m : Int) else (m : Int)

theorem floor_parts (s : Bool) (m S : Nat) : ∃ q D : Nat, Toward.down.cut s m S = q ∧ D < 2 ^ S ∧ sg s m = sg s q * ((2 ^ S : Nat) : Int) + D ∧ q ≤ m ∧ (s = false → D ≤ m) := by
  have hp := Nat.two_pow_pos S
  have hd := Nat.div_add_mod m (2 ^ S)
  have hl := Nat.mod_lt m hp
  cases s
  · refine ⟨_, m % 2 ^ S, cut_down_pos m S, hl, ?_, Nat.div_le_self _ _, fun _ => Nat.mod_le _ _⟩
    unfold sg
    simp only [Bool.false_eq_true, if_false]
    rw [← Int.natCast_mul, ← Int.natCast_add, Nat.mul_comm, hd]
  · by_cases h : m % 2 ^ S = 0
    · refine ⟨_, 0, cut_down_neg m S, hp, ?_, ?_, fun hh => by cases hh⟩
      · rw [h]
        unfold sg
        simp only [if_true]
        have : m = m / 2 ^ S * 2 ^ S := by rw [Nat.mul_comm]; omega
        simp
        rw [Int.neg_mul]
        have := congrArg (fun n : Nat => (n : Int)) this
        push_cast at this
        omega
      · rw [h]; simp; exact Nat.div_le_self _ _
    · refine ⟨_, 2 ^ S - m % 2 ^ S, cut_down_neg m S, by omega, ?_, ?_, fun hh => by cases hh⟩
      · have hb : (m % 2 ^ S != 0) = true := by simpa using h
        rw [hb]
        unfold sg
        simp only [if_true, Bool.toNat_true]
        have e : (m : Int) = (m / 2 ^ S * 2 ^ S : Nat) + (m % 2 ^ S : Nat) := by
          rw [← Int.natCast_add, Nat.mul_comm, hd]
        rw [Int.natCast_sub (by omega)]
        rw [Int.neg_mul, ← Int.natCast_mul, Nat.add_mul, Nat.one_mul]
        omega
      · have hb : (m % 2 ^ S != 0) = true := by simpa using h
        rw [hb]
        have h1 : 1 ≤ m := by
          rcases Nat.eq_zero_or_pos m with h' | h'
          · subst h'; simp at h
          · exact h'
        have h2 : m / 2 ^ S + 1 ≤ m ∨ S = 0 := by
          rcases Nat.eq_zero_or_pos S with h' | h'
          · exact .inr h'
          · left
            have : m / 2 ^ S ≤ m / 2 := Nat.div_le_div_left (by calc 2 = 2 ^ 1 := rfl
                                                              _ ≤ 2 ^ S := Nat.pow_le_pow_right (by decide) h') (by decide)
            have : m / 2 < m := Nat.div_lt_self h1 (by decide)
            omega
        rcases h2 with h2 | h2
        · simpa using h2
        · subst h2; simp [Nat.mod_one] at h

theorem compare_lt {a b : Int} (h : a < b) : compare a b = .lt := Int.compare_eq_lt.2 h
theorem compare_ge {a b : Int} (h : b ≤ a) : compare a b = .gt ∨ compare a b = .eq := by
  rcases Int.lt_or_eq_of_le h with h | h
  · exact .inl (Int.compare_eq_gt.2 h)
  · exact .inr (by rw [h]; simp)

/-- floor, the fraction held against one half, and one more. -/
theorem half_law (x : Nat) (s : Bool) (m S e E : Nat) (he : e = 1073) (hE : E = 1074) (hread : double.read x = .number s m (-(S : Int))) (hS1 : 1 ≤ S) (hS2 : S ≤ 1074) (hm : m < 2 ^ 53) :
    ∃ fw dw q D : Nat, double.write ((double.read x).integral .down) = fw ∧ double.sub x fw = some dw ∧ D < 2 ^ S ∧ sg s m = sg s q * ((2 ^ S : Nat) : Int) + D ∧ Val fw (sg s q * ((2 ^ E : Nat) : Int)) ∧
      (2 ^ S ≤ 2 * D → (double.order dw 4602678819172646912 = some .gt ∨ double.order dw 4602678819172646912 = some .eq) ∧ ∃ gw, double.add fw 4607182418800017408 = some gw ∧ Val gw ((sg s q + 1) * ((2 ^ E : Nat) : Int))) ∧
      (2 * D < 2 ^ S → double.order dw 4602678819172646912 = some .lt) ∧ q ≤ m := by
  obtain ⟨q, D, hq, hD, hV, hqm, hDm⟩ := floor_parts s m S
  have hf : double.write ((double.read x).integral .down) = double.nearest s q 0 := by
    rw [hread]
    simp only [Datum.integral, Format.write]
    rw [show (-(S : Int)).toNat = 0 from by omega, show (- -(S : Int)).toNat = S from by omega, shl, Nat.pow_zero, Nat.mul_one, hq]
  have vf : Val (double.nearest s q 0) (sg s q * ((2 ^ E : Nat) : Int)) := val_whole s q E hE (by omega)
  have vx : Val x (sg s m * ((2 ^ (E - S) : Nat) : Int)) := by
    refine ⟨s, m, -(S : Int), hread, by omega, ?_⟩
    unfold SV sg
    rw [show (-(S : Int) + 1074).toNat = E - S from by omega]
    cases s
    · simp
    · simp [Int.neg_mul]
  have hpE : ((2 ^ E : Nat) : Int) = ((2 ^ S : Nat) : Int) * ((2 ^ (E - S) : Nat) : Int) := by
    rw [← Int.natCast_mul, ← Nat.pow_add]; congr 2; omega
  have hpe : ((2 ^ e : Nat) : Int) = ((2 ^ (S - 1) : Nat) : Int) * ((2 ^ (E - S) : Nat) : Int) := by
    rw [← Int.natCast_mul, ← Nat.pow_add]; congr 2; omega
  have hpS : (2 ^ S : Nat) = 2 * 2 ^ (S - 1) := by
    rw [← Nat.pow_succ']; congr 1; omega
  have hS3 : 2 ≤ 2 ^ S := by have := Nat.two_pow_pos (S - 1); omega
  have hu : (0 : Int) < ((2 ^ (E - S) : Nat) : Int) := by have := Nat.two_pow_pos (E - S); omega
  have hA : sg s m * ((2 ^ (E - S) : Nat) : Int) - sg s q * ((2 ^ E : Nat) : Int) = (D : Int) * ((2 ^ (E - S) : Nat) : Int) := by
    rw [hV, hpE, ← Int.mul_assoc, ← Int.sub_mul]
    congr 1
    omega
  obtain ⟨b, hsub⟩ := val_sub vx vf
  rw [hA] at hsub
  have vh := val_half e he
  refine ⟨_, _, q, D, hf, hsub, hD, hV, vf, fun hge => ?_, fun hlt => ?_, hqm⟩
  · have hD0 : 0 < D := by omega
    have hA0 : (D : Int) * ((2 ^ (E - S) : Nat) : Int) ≠ 0 := Int.mul_ne_zero (by omega) (by omega)
    constructor
    · rw [if_neg hA0]
      have hpos : ¬ ((D : Int) * ((2 ^ (E - S) : Nat) : Int) < 0) := by have := Int.mul_nonneg (show (0 : Int) ≤ (D : Int) by omega) (Int.le_of_lt hu); omega
      have he1 : enc ((D : Int) * ((2 ^ (E - S) : Nat) : Int)) = double.nearest false (D * 2 ^ (E - S)) (-1074) := by
        unfold enc
        rw [decide_eq_false hpos, Int.natAbs_mul]
        simp
      have h1 : 2 ^ e ≤ D * 2 ^ (E - S) := by
        have : 2 ^ e = 2 ^ (S - 1) * 2 ^ (E - S) := by rw [← Nat.pow_add]; congr 1; omega
        rw [this]
        exact Nat.mul_le_mul_right _ (by omega)
      have h2 : D * 2 ^ (E - S) ≤ 2 ^ (e + 1) := by
        have : 2 ^ (e + 1) = 2 ^ S * 2 ^ (E - S) := by rw [← Nat.pow_add]; congr 1; omega
        rw [this]
        exact Nat.mul_le_mul_right _ (by omega)
      obtain ⟨n, j, hr, hj, hv⟩ := read_enc_half e he _ h1 h2
      have vd : Val (enc ((D : Int) * ((2 ^ (E - S) : Nat) : Int))) ((n * 2 ^ (j + 1074).toNat : Nat) : Int) := by
        rw [he1]
        exact ⟨false, n, j, hr, hj, rfl⟩
      rw [vd.order vh]
      rcases compare_ge (a := ((n * 2 ^ (j + 1074).toNat : Nat) : Int)) (b := ((2 ^ e : Nat) : Int)) (by omega) with h | h
      · rw [h]; exact .inl rfl
      · rw [h]; exact .inr rfl
    · obtain ⟨b', hadd⟩ := val_add vf (val_one E hE)
      have hB : sg s q * ((2 ^ E : Nat) : Int) + ((2 ^ E : Nat) : Int) = (sg s q + 1) * ((2 ^ E : Nat) : Int) := by rw [Int.add_mul, Int.one_mul]
      rw [hB] at hadd
      refine ⟨_, hadd, ?_⟩
      by_cases hz : (sg s q + 1) * ((2 ^ E : Nat) : Int) = 0
      · rw [if_pos hz, hz]; exact val_zero b'
      · rw [if_neg hz]
        refine val_enc _ E ?_ (by omega)
        cases s
        · have hq2 : q * 2 ≤ q * 2 ^ S := Nat.mul_le_mul_left _ hS3
          unfold sg at hV ⊢
          simp only [Bool.false_eq_true, if_false] at hV ⊢
          rw [← Int.natCast_mul] at hV
          omega
        · unfold sg
          simp only [if_true]
          omega
  · by_cases hD0 : D = 0
    · have hA0 : (D : Int) * ((2 ^ (E - S) : Nat) : Int) = 0 := by rw [hD0]; simp
      rw [if_pos hA0, (val_zero b).order vh, compare_lt]
      have := Nat.two_pow_pos e
      omega
    · have hA0 : (D : Int) * ((2 ^ (E - S) : Nat) : Int) ≠ 0 := Int.mul_ne_zero (by omega) (by omega)
      rw [if_neg hA0]
      have hD53 : D < 2 ^ 53 := by
        cases s
        · have := hDm rfl; omega
        · by_cases hS54 : S ≤ 53
          · have : 2 ^ S ≤ 2 ^ 53 := Nat.pow_le_pow_right (by decide) hS54
            omega
          · exfalso
            have h53 : 2 ^ 53 ≤ 2 ^ (S - 1) := Nat.pow_le_pow_right (by decide) (by omega)
            unfold sg at hV
            simp only [if_true] at hV
            rw [Int.neg_mul, ← Int.natCast_mul] at hV
            have hq1 : 1 ≤ q := by
              rcases Nat.eq_zero_or_pos q with h | h
              · subst h; simp at hV; omega
              · exact h
            have : 2 ^ S ≤ q * 2 ^ S := by
              calc 2 ^ S = 1 * 2 ^ S := (Nat.one_mul _).symm
                _ ≤ q * 2 ^ S := Nat.mul_le_mul_right _ hq1
            omega
      have vd : Val (enc ((D : Int) * ((2 ^ (E - S) : Nat) : Int))) ((D : Int) * ((2 ^ (E - S) : Nat) : Int)) := val_enc (D : Int) (E - S) (by simpa using hD53) (by omega)
      rw [vd.order vh, compare_lt]
      rw [hpe]
      exact Int.mul_lt_mul_of_pos_right (by omega) hu

/-- What Go reckons with whole numbers is the same. -/
theorem round_eq (V F : Int) (S D : Nat) (hS1 : 1 ≤ S) (hD : D < 2 ^ S) (hV : V = F * ((2 ^ S : Nat) : Int) + D) :
    (V + ((2 ^ (S - 1) : Nat) : Int)) / ((2 ^ S : Nat) : Int) = if 2 ^ S ≤ 2 * D then F + 1 else F := by
  have hpS : (2 ^ S : Nat) = 2 * 2 ^ (S - 1) := by rw [← Nat.pow_succ']; congr 1; omega
  have hp := Nat.two_pow_pos (S - 1)
  rw [hV, Int.add_assoc, Int.add_comm, Int.add_mul_ediv_right _ _ (by omega)]
  generalize 2 ^ (S - 1) = h at *
  rw [hpS] at hD ⊢
  split
  · have : ((D : Int) + (h : Int)) / ((2 * h : Nat) : Int) = 1 := by
      rw [Int.ediv_eq_iff_of_pos (by omega)]
      omega
    rw [this]; omega
  · have : ((D : Int) + (h : Int)) / ((2 * h : Nat) : Int) = 0 := by
      apply Int.ediv_eq_zero_of_lt <;> omega
    rw [this]; omega

theorem cut_zero (t : Bool) (n d : Nat) : Toward.zero.cut t n d = n / 2 ^ d := by
  unfold Toward.cut
  simp only [shl, Nat.one_mul, Bool.toNat_false, Nat.add_zero]
  by_cases h : d ≤ n.log2 + 2
  · rw [Nat.min_eq_left h]
  · have h1 : n < 2 ^ (n.log2 + 1) := Nat.lt_log2_self
    have h2 : 2 ^ (n.log2 + 2) = 2 * 2 ^ (n.log2 + 1) := by rw [Nat.pow_succ]; omega
    have h3 : 2 ^ (n.log2 + 2) ≤ 2 ^ d := Nat.pow_le_pow_right (by omega) (by omega)
    rw [Nat.min_eq_right (by omega), Nat.div_eq_of_lt (by omega), Nat.div_eq_of_lt (by omega)]

/-- A double that stands for a whole number, made an integer. -/
theorem toInt_val (w : Nat) (R : Int) (E : Nat) (hE : E = 1074) (h : Val w (R * ((2 ^ E : Nat) : Int))) : (double.read w).toInt .zero = some R := by
  obtain ⟨t, n, j, e, hj, hv⟩ := h
  rw [e]
  unfold Datum.toInt
  simp only [Datum.integral]
  rw [shl, cut_zero, signed_eq, Nat.pow_zero, Nat.mul_one]
  have hn : n * 2 ^ (j + 1074).toNat = R.natAbs * 2 ^ E := by
    have := congrArg Int.natAbs hv
    rw [natAbs_SV, Int.natAbs_mul, Int.natAbs_natCast] at this
    exact this
  have hq : n * 2 ^ j.toNat / 2 ^ (-j).toNat = R.natAbs := by
    rcases Int.le_total 0 j with h0 | h0
    · rw [show (-j).toNat = 0 from by omega, Nat.pow_zero, Nat.div_one]
      rw [show (j + 1074).toNat = j.toNat + E from by omega, Nat.pow_add, ← Nat.mul_assoc] at hn
      exact Nat.eq_of_mul_eq_mul_right (Nat.two_pow_pos E) hn
    · rw [show j.toNat = 0 from by omega, Nat.pow_zero, Nat.mul_one]
      rw [show E = (-j).toNat + (j + 1074).toNat from by omega, Nat.pow_add, ← Nat.mul_assoc] at hn
      rw [Nat.eq_of_mul_eq_mul_right (Nat.two_pow_pos _) hn, Nat.mul_div_cancel _ (Nat.two_pow_pos _)]
  rw [hq]
  have hE0 := Nat.two_pow_pos E
  have hE1 : (0 : Int) < ((2 ^ E : Nat) : Int) := by omega
  congr 1
  by_cases hR : R = 0
  · subst hR; cases t <;> simp
  · have hR2 : R * ((2 ^ E : Nat) : Int) ≠ 0 := Int.mul_ne_zero hR (by omega)
    have hb : (0 : Int) ≤ ((n * 2 ^ (j + 1074).toNat : Nat) : Int) := by omega
    unfold SV at hv
    cases t
    · rw [if_neg Bool.false_ne_true] at hv ⊢
      have : ¬ R < 0 := fun h => by have := Int.mul_neg_of_neg_of_pos h hE1; omega
      omega
    · rw [if_pos rfl] at hv ⊢
      have : ¬ 0 < R := fun h => by have := Int.mul_pos h hE1; omega
      omega

/-- A great number is its own floor. -/
theorem floor_great (x : Nat) (s : Bool) (m : Nat) (i : Int) (hx : x < 2 ^ 64) (hread : double.read x = .number s m i) (hi : 0 ≤ i) (hfin : x % 2 ^ 63 < 2047 * 2 ^ 52) : double.write ((double.read x).integral .down) = x := by
  have hr := hread
  rw [read_eq] at hr
  have hn : ¬ x % 2 ^ 63 < 2 ^ 52 := by
    intro h
    rw [if_pos h] at hr
    injection hr with _ _ h3
    omega
  rw [if_neg hn, if_pos hfin] at hr
  injection hr with h1 h2 h3
  rw [hread]
  simp only [Datum.integral, Format.write]
  rw [show (-i).toNat = 0 from by omega, shl]
  have hc : Toward.down.cut s (m * 2 ^ i.toNat) 0 = m * 2 ^ i.toNat := by
    cases s
    · rw [cut_down_pos]; simp
    · rw [cut_down_neg]; simp [Nat.mod_one]
  rw [hc, nearest_scale, show (0 : Int) + (i.toNat : Int) = i from by omega]
  have hm0 : m ≠ 0 := by omega
  have hlog : m.log2 = 52 := by rw [Nat.log2_eq_iff hm0]; omega
  rw [nearest_eq _ _ _ hm0]
  unfold rungOf
  rw [hlog, show max (i + ((52 : Nat) : Int) - 52) (-1074) = i from by omega, show (i - i).toNat = 0 from by omega, cutE_zero, Nat.pow_zero, Nat.mul_one]
  have hrung : (i + 1074).toNat * 2 ^ 52 + m = x % 2 ^ 63 := by
    have : (i + 1074).toNat = x % 2 ^ 63 / 2 ^ 52 - 1 := by omega
    rw [this]
    omega
  rw [hrung, Nat.min_eq_left (by omega)]
  have e : double.word s (x % 2 ^ 63) = if s then 2 ^ 63 + x % 2 ^ 63 else x % 2 ^ 63 := rfl
  rw [e]
  cases s
  · rw [if_neg Bool.false_ne_true]
    have : ¬ x / 2 ^ 63 % 2 = 1 := by simpa using h1
    omega
  · rw [if_pos rfl]
    have : x / 2 ^ 63 % 2 = 1 := by simpa using h1
    omega

/-- The parts of a finite double, as Go reckons them from its bits. -/
theorem parts (x : Nat) (hfin : x % 2 ^ 63 < 2047 * 2 ^ 52) :
    (x / 2 ^ 52 % 2048 = 0 → double.read x = .number (x / 2 ^ 63 % 2 == 1) (x % 2 ^ 52) (-1074)) ∧
    (x / 2 ^ 52 % 2048 ≠ 0 → double.read x = .number (x / 2 ^ 63 % 2 == 1) (2 ^ 52 + x % 2 ^ 52) (((x / 2 ^ 52 % 2048 : Nat) : Int) - 1075)) := by
  have e1 : x % 2 ^ 63 / 2 ^ 52 = x / 2 ^ 52 % 2048 := by omega
  have e2 : x % 2 ^ 63 % 2 ^ 52 = x % 2 ^ 52 := by omega
  rw [read_eq]
  constructor
  · intro h
    have h1 : x % 2 ^ 63 < 2 ^ 52 := by omega
    rw [if_pos h1]
    congr 1
    omega
  · intro h
    have h1 : ¬ x % 2 ^ 63 < 2 ^ 52 := by omega
    rw [if_neg h1, if_pos hfin, e1, e2]
    congr 1
    omega

end Go.Proofs.Qxb6002620a.Fl
