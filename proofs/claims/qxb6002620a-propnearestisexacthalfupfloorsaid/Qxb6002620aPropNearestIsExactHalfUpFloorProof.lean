/- 'Rows.PropNearestIsExactHalfUpFloorSaid' PROVED: the walk of the law over the contracts; the row's step after the guide's shells, at a float. -/
import Derived.Test.Qxb6002620aRows
import Derived.Test.Qxb6002620aNear
import Derived.WalkKit
import Derived.ProofKit
import Derived.OpenShut
import Derived.ShutString
import Derived.Laws.Cover2
namespace Go.Proofs.Qxb6002620a.propNearestIsExactHalfUpFloor
open Go.ChangeShapes Go.WideShapes Go.ChangeAt Go.RowKit
set_option linter.unusedVariables false
set_option linter.unusedSimpArgs false

theorem own : ownKnob Try.prog.godebug = none := by kernel_rfl

theorem grown_drewN (w : World) (n : Nat) : Grown w (w.drewN n) := Grown.refl w

/-! ### What Go reckons from the bits -/
theorem and_exp (x : Nat) (hx : x < 18446744073709551616) : bits BinOp.and IntKind.u64 ((x : Int) / 4503599627370496) 2047 = ((x / 4503599627370496 % 2048 : Nat) : Int) := by
  have e : ((x : Int) / 4503599627370496) = ((x / 4503599627370496 : Nat) : Int) := by omega
  have h := u64_and_nat (x / 4503599627370496) 2047 (by omega) (by omega)
  rw [e]
  refine h.trans ?_
  have := Nat.and_two_pow_sub_one_eq_mod (x / 4503599627370496) 11
  exact congrArg (fun n : Nat => (n : Int)) this

theorem and_frac (x : Nat) (hx : x < 18446744073709551616) : bits BinOp.and IntKind.u64 (x : Int) 4503599627370495 = ((x % 4503599627370496 : Nat) : Int) := by
  have h := u64_and_nat x 4503599627370495 hx (by omega)
  refine h.trans ?_
  have := Nat.and_two_pow_sub_one_eq_mod x 52
  exact congrArg (fun n : Nat => (n : Int)) this

theorem or_lead (m : Nat) (hm : m < 4503599627370496) : bits BinOp.or IntKind.i64 (m : Int) 4503599627370496 = (m : Int) + 4503599627370496 := by
  have hj : 4503599627370496 ||| m = 4503599627370496 + m := nat_join 52 4503599627370496 m (by decide) (by omega)
  have h : ((BitVec.ofInt 64 (m : Int) ||| BitVec.ofInt 64 ((4503599627370496 : Nat) : Int)).toNat : Int) = (m : Int) + 4503599627370496 := by
    rw [BitVec.toNat_or, ofInt_u64 m (by omega), ofInt_u64 4503599627370496 (by decide), Nat.or_comm, hj]
    omega
  show IntKind.i64.wrap ((BitVec.ofInt 64 (m : Int) ||| BitVec.ofInt 64 ((4503599627370496 : Nat) : Int)).toNat : Int) = _
  rw [h, IntKind.wrap_i64]
  omega

/-- The double of a small whole number: it stands for that number, and is made that integer again. -/
theorem whole_back (g : Nat) (R : Int) (E : Nat) (hE : E = 1074) (hR : R.natAbs < 2 ^ 53) (hg : Fl.Val g (R * ((2 ^ E : Nat) : Int))) :
    FloatKind.f64.format.order g (floatOfInt .f64 R) = some .eq ∧ floatToIntVal .f64 (floatOfInt .f64 R) .i64 = some R := by
  have hv : Fl.Val (floatOfInt .f64 R) (R * ((2 ^ E : Nat) : Int)) := by
    have h := Fl.val_whole (decide (R < 0)) R.natAbs E hE hR
    have e : (if decide (R < 0) = true then -(R.natAbs : Int) else (R.natAbs : Int)) = R := by
      by_cases h : R < 0
      · rw [decide_eq_true h, if_pos rfl]; omega
      · rw [decide_eq_false h, if_neg Bool.false_ne_true]; omega
    rw [e] at h
    exact h
  constructor
  · exact (hg.order hv).trans (by simp)
  · have ht := Fl.toInt_val _ R E hE hv
    have ht' : (FloatKind.f64.decode (floatOfInt .f64 R)).toInt .zero = some R := ht
    unfold floatToIntVal
    rw [ht']
    have h1 : IntKind.i64.min ≤ R ∧ R ≤ IntKind.i64.max := by
      have e1 : IntKind.i64.min = -9223372036854775808 := by decide
      have e2 : IntKind.i64.max = 9223372036854775807 := by decide
      rw [e1, e2]; omega
    exact if_pos h1

theorem int_pow (k : Nat) : ((2 : Int) ^ k) = ((2 ^ k : Nat) : Int) := by push_cast; rfl

/-- Go's shifts, as the walk writes them, are the rounding of V / 2 ^ S. -/
theorem shifts (be : Nat) (V : Int) (h1 : 1015 ≤ be) (h2 : be ≤ 1074) (hV : V.natAbs < 2 ^ 53) :
    wrap64 (V + wrap64 (2 ^ ((-((be : Int) - 1075)).toNat - 1))) / 2 ^ (-((be : Int) - 1075)).toNat = (V + ((2 ^ (1075 - be - 1) : Nat) : Int)) / ((2 ^ (1075 - be) : Nat) : Int) := by
  have e : (-((be : Int) - 1075)).toNat = 1075 - be := by omega
  rw [e, int_pow, int_pow]
  have hb : 2 ^ (1075 - be - 1) ≤ 2 ^ 59 := Nat.pow_le_pow_right (by decide) (by omega)
  generalize 2 ^ (1075 - be - 1) = a at *
  rw [IntWalk.wrap64_in (a : Int) ⟨by omega, by omega⟩, IntWalk.wrap64_in (V + (a : Int)) ⟨by omega, by omega⟩]

theorem small_round (V : Int) (S : Nat) (hS : 54 ≤ S) (hV : V.natAbs < 2 ^ 53) : (V + ((2 ^ (S - 1) : Nat) : Int)) / ((2 ^ S : Nat) : Int) = 0 := by
  have h1 : 2 ^ 53 ≤ 2 ^ (S - 1) := Nat.pow_le_pow_right (by decide) (by omega)
  have h2 : (2 ^ S : Nat) = 2 * 2 ^ (S - 1) := by rw [← Nat.pow_succ']; congr 1; omega
  rw [h2]
  generalize 2 ^ (S - 1) = a at *
  apply Int.ediv_eq_zero_of_lt <;> omega

theorem round_small (V : Int) (S : Nat) (hS : 1 ≤ S) (hV : V.natAbs < 2 ^ 53) : ((V + ((2 ^ (S - 1) : Nat) : Int)) / ((2 ^ S : Nat) : Int)).natAbs < 2 ^ 53 := by
  have h2 : (2 ^ S : Nat) = 2 * 2 ^ (S - 1) := by rw [← Nat.pow_succ']; congr 1; omega
  have hp := Nat.two_pow_pos (S - 1)
  rw [h2]
  generalize 2 ^ (S - 1) = a at *
  have hpos : (0 : Int) < ((2 * a : Nat) : Int) := by omega
  have h3 := Int.ediv_mul_le (V + (a : Int)) (show ((2 * a : Nat) : Int) ≠ 0 by omega)
  have h4 := Int.lt_ediv_add_one_mul_self (V + (a : Int)) hpos
  generalize (V + (a : Int)) / ((2 * a : Nat) : Int) = Q at *
  rcases Int.le_total 0 Q with hQ | hQ
  · obtain ⟨n, rfl⟩ := Int.eq_ofNat_of_zero_le hQ
    rw [← Int.natCast_mul] at h3
    rcases Nat.eq_zero_or_pos n with h0 | h0
    · subst h0; simp
    · have k1 : n ≤ n * a := Nat.le_mul_of_pos_right _ hp
      have k2 : a ≤ n * a := Nat.le_mul_of_pos_left _ h0
      have k3 : n * (2 * a) = n * a + n * a := by rw [Nat.mul_left_comm]; omega
      rw [k3] at h3
      simp only [Int.natAbs_natCast]
      omega
  · obtain ⟨n, hn⟩ := Int.eq_ofNat_of_zero_le (show 0 ≤ -Q by omega)
    have hq : Q = -(n : Int) := by omega
    subst hq
    rcases Nat.eq_zero_or_pos n with h0 | h0
    · subst h0; simp
    · have k1 : n ≤ n * a := Nat.le_mul_of_pos_right _ hp
      have k2 : a ≤ n * a := Nat.le_mul_of_pos_left _ h0
      have k3 : n * (2 * a) = n * a + n * a := by rw [Nat.mul_left_comm]; omega
      rw [Int.add_mul, Int.one_mul, Int.neg_mul, ← Int.natCast_mul, k3] at h4
      simp only [Int.natAbs_neg, Int.natAbs_natCast]
      omega

set_option maxRecDepth 100000 in
set_option maxHeartbeats 1000000 in
theorem walk_not (x : Nat) (w : World) (hf : fin x = false) : Calls Try.prog 3 #[.float .f64 x] w fun e w' => e = .returned (.bool true) ∧ Grown w w' := by
  go_enter Try.func3, Try.ntmps3
  go_wp2_with fail
  refine (c1Finite_any x _).mono ?_
  rintro e w1 ⟨rfl, q, rfl⟩
  go_wp2
  go_ret
  exact ⟨rfl, grown_drewN _ _⟩

set_option maxRecDepth 100000 in
set_option maxHeartbeats 1000000 in
/-- A great double: it is its own. -/
theorem walk_great (x be mm : Nat) (w : World) (hx : x < 18446744073709551616) (hf : fin x = true) (hz : ∀ w, Calls Try.prog 6 #[.float .f64 x] w fun e w' => e = .returned (.float .f64 x) ∧ w = w')
    (hbe : bits BinOp.and IntKind.u64 ((x : Int) / 4503599627370496) 2047 = (be : Int)) (hmm : bits BinOp.and IntKind.u64 (x : Int) 4503599627370495 = (mm : Int)) (hor : bits BinOp.or IntKind.i64 (mm : Int) 4503599627370496 = (mm : Int) + 4503599627370496)
    (h1 : 1075 ≤ be) (h2 : be ≤ 2047) (h3 : mm < 4503599627370496) :
    Calls Try.prog 3 #[.float .f64 x] w fun e w' => e = .returned (.bool true) ∧ Grown w w' := by
  have h7 := float64bits_run x
  have ho := order_self_fin hf
  have HZ : Hid _ := hz
  have hb0 : ((be : Int) == 0) = false := beq_eq_false_iff_ne.2 (by omega)
  clear hz
  cases hs : ((x : Int) / 9223372036854775808 == 1)
  all_goals
    go_enter Try.func3, Try.ntmps3
    go_wp2_with fail
    refine (c1Finite_any x _).mono ?_
    rintro e w1 ⟨rfl, q, rfl⟩
    go_wp2_with fail
    refine Calls.mono (HZ.out _) ?_
    rintro e w' ⟨rfl, rfl⟩
    go_wp2
    go_ret
    exact ⟨rfl, grown_drewN _ _⟩

set_option maxRecDepth 100000 in
set_option maxHeartbeats 1000000 in
/-- A tiny double: the whole number is nought. -/
theorem walk_tiny (x be mm g : Nat) (w : World) (hx : x < 18446744073709551616) (hf : fin x = true) (hz : ∀ w, Calls Try.prog 6 #[.float .f64 x] w fun e w' => e = .returned (.float .f64 g) ∧ w = w')
    (hbe : bits BinOp.and IntKind.u64 ((x : Int) / 4503599627370496) 2047 = (be : Int)) (hmm : bits BinOp.and IntKind.u64 (x : Int) 4503599627370495 = (mm : Int)) (hor : bits BinOp.or IntKind.i64 (mm : Int) 4503599627370496 = (mm : Int) + 4503599627370496)
    (h2 : be < 1015) (h3 : mm < 4503599627370496) (ho : FloatKind.f64.format.order g (floatOfInt .f64 0) = some .eq) (hi : floatToIntVal .f64 (floatOfInt .f64 0) .i64 = some 0) :
    Calls Try.prog 3 #[.float .f64 x] w fun e w' => e = .returned (.bool true) ∧ Grown w w' := by
  have h7 := float64bits_run x
  have hc := fun w => run_convert_float_int (P := Try.prog) w 22 2 .f64 .i64 _ 0 (by rw [Try.underlying22]; rfl) Try.underlying2 hi
  have HZ : Hid _ := hz
  clear hz hi
  by_cases hb : be = 0
  · have hb0 : ((be : Int) == 0) = true := beq_iff_eq.2 (by omega)
    clear hb
    cases hs : ((x : Int) / 9223372036854775808 == 1)
    all_goals
      go_enter Try.func3, Try.ntmps3
      go_wp2_with fail
      refine (c1Finite_any x _).mono ?_
      rintro e w1 ⟨rfl, q, rfl⟩
      go_wp2_with fail
      refine Calls.mono (HZ.out _) ?_
      rintro e w' ⟨rfl, rfl⟩
      go_wp2
      go_ret
      exact ⟨rfl, grown_drewN _ _⟩
  · have hb0 : ((be : Int) == 0) = false := beq_eq_false_iff_ne.2 (by omega)
    clear hb
    cases hs : ((x : Int) / 9223372036854775808 == 1)
    all_goals
      go_enter Try.func3, Try.ntmps3
      go_wp2_with fail
      refine (c1Finite_any x _).mono ?_
      rintro e w1 ⟨rfl, q, rfl⟩
      go_wp2_with fail
      refine Calls.mono (HZ.out _) ?_
      rintro e w' ⟨rfl, rfl⟩
      go_wp2
      go_ret
      exact ⟨rfl, grown_drewN _ _⟩

set_option maxRecDepth 100000 in
set_option maxHeartbeats 1000000 in
/-- A double with a fraction, not negative. -/
theorem walk_pos (x be mm g : Nat) (r : Int) (w : World) (hx : x < 18446744073709551616) (hf : fin x = true) (hz : ∀ w, Calls Try.prog 6 #[.float .f64 x] w fun e w' => e = .returned (.float .f64 g) ∧ w = w')
    (hbe : bits BinOp.and IntKind.u64 ((x : Int) / 4503599627370496) 2047 = (be : Int)) (hmm : bits BinOp.and IntKind.u64 (x : Int) 4503599627370495 = (mm : Int)) (hor : bits BinOp.or IntKind.i64 (mm : Int) 4503599627370496 = (mm : Int) + 4503599627370496)
    (h1 : 1015 ≤ be) (h2 : be ≤ 1074) (h3 : mm < 4503599627370496) (hs : ((x : Int) / 9223372036854775808 == 1) = false)
    (hr : wrap64 ((mm : Int) + 4503599627370496 + wrap64 (2 ^ ((-((be : Int) - 1075)).toNat - 1))) / 2 ^ (-((be : Int) - 1075)).toNat = r)
    (ho : FloatKind.f64.format.order g (floatOfInt .f64 r) = some .eq) (hi : floatToIntVal .f64 (floatOfInt .f64 r) .i64 = some r) :
    Calls Try.prog 3 #[.float .f64 x] w fun e w' => e = .returned (.bool true) ∧ Grown w w' := by
  have h7 := float64bits_run x
  have hc := fun w => run_convert_float_int (P := Try.prog) w 22 2 .f64 .i64 _ r (by rw [Try.underlying22]; rfl) Try.underlying2 hi
  have HZ : Hid _ := hz
  have hb0 : ((be : Int) == 0) = false := beq_eq_false_iff_ne.2 (by omega)
  clear hz hi
  go_enter Try.func3, Try.ntmps3
  go_wp2_with fail
  refine (c1Finite_any x _).mono ?_
  rintro e w1 ⟨rfl, q, rfl⟩
  go_wp2_with fail
  refine Calls.mono (HZ.out _) ?_
  rintro e w' ⟨rfl, rfl⟩
  go_wp2
  go_ret
  exact ⟨rfl, grown_drewN _ _⟩

set_option maxRecDepth 100000 in
set_option maxHeartbeats 1000000 in
/-- .. negative. -/
theorem walk_neg (x be mm g : Nat) (r : Int) (w : World) (hx : x < 18446744073709551616) (hf : fin x = true) (hz : ∀ w, Calls Try.prog 6 #[.float .f64 x] w fun e w' => e = .returned (.float .f64 g) ∧ w = w')
    (hbe : bits BinOp.and IntKind.u64 ((x : Int) / 4503599627370496) 2047 = (be : Int)) (hmm : bits BinOp.and IntKind.u64 (x : Int) 4503599627370495 = (mm : Int)) (hor : bits BinOp.or IntKind.i64 (mm : Int) 4503599627370496 = (mm : Int) + 4503599627370496)
    (h1 : 1015 ≤ be) (h2 : be ≤ 1074) (h3 : mm < 4503599627370496) (hs : ((x : Int) / 9223372036854775808 == 1) = true)
    (hr : wrap64 (-((mm : Int) + 4503599627370496) + wrap64 (2 ^ ((-((be : Int) - 1075)).toNat - 1))) / 2 ^ (-((be : Int) - 1075)).toNat = r)
    (ho : FloatKind.f64.format.order g (floatOfInt .f64 r) = some .eq) (hi : floatToIntVal .f64 (floatOfInt .f64 r) .i64 = some r) :
    Calls Try.prog 3 #[.float .f64 x] w fun e w' => e = .returned (.bool true) ∧ Grown w w' := by
  have h7 := float64bits_run x
  have hc := fun w => run_convert_float_int (P := Try.prog) w 22 2 .f64 .i64 _ r (by rw [Try.underlying22]; rfl) Try.underlying2 hi
  have HZ : Hid _ := hz
  have hb0 : ((be : Int) == 0) = false := beq_eq_false_iff_ne.2 (by omega)
  clear hz hi
  go_enter Try.func3, Try.ntmps3
  go_wp2_with fail
  refine (c1Finite_any x _).mono ?_
  rintro e w1 ⟨rfl, q, rfl⟩
  go_wp2_with fail
  refine Calls.mono (HZ.out _) ?_
  rintro e w' ⟨rfl, rfl⟩
  go_wp2
  go_ret
  exact ⟨rfl, grown_drewN _ _⟩

/-! ### THE WALK -/
theorem walk (x : Nat) (hx : x < 2 ^ 64) (w : World) : Calls Try.prog 3 #[.float .f64 x] w fun e w' => e = .returned (.bool true) ∧ Grown w w' := by
  cases hf : fin x
  · exact walk_not x w hf
  have hx' : x < 18446744073709551616 := hx
  have hfin : x % 2 ^ 63 < 2047 * 2 ^ 52 := by unfold fin at hf; simpa using hf
  obtain ⟨pr0, pr1⟩ := Fl.parts x hfin
  have hbe := and_exp x hx'
  have hmm := and_frac x hx'
  have hm : x % 4503599627370496 < 4503599627370496 := Nat.mod_lt _ (by decide)
  have hor := or_lead _ hm
  have hs : ((x : Int) / 9223372036854775808 == 1) = (x / 2 ^ 63 % 2 == 1) := by
    rw [Bool.eq_iff_iff, beq_iff_eq, beq_iff_eq]; omega
  have hb2 : x / 4503599627370496 % 2048 < 2047 := by omega
  have e52 : x / 2 ^ 52 % 2048 = x / 4503599627370496 % 2048 := rfl
  have m52 : x % 2 ^ 52 = x % 4503599627370496 := rfl
  rw [e52, m52] at pr0 pr1
  generalize x / 4503599627370496 % 2048 = be at *
  generalize x % 4503599627370496 = mm at *
  generalize (x / 2 ^ 63 % 2 == 1) = s at *
  clear e52 m52
  by_cases hg : 1075 ≤ be
  · exact walk_great x be mm w hx' hf (fun w => near_great x s _ _ w hx hf (pr1 (by omega)) (by omega)) hbe hmm hor hg (by omega) hm
  by_cases h0 : be = 0
  · have hm53 : mm < 2 ^ 53 := by omega
    obtain ⟨g, R, hz, hv, hR⟩ := near_small x s mm 1074 1074 rfl hf (pr0 h0) (by omega) (by omega) hm53
    have hV : (Fl.sg s mm).natAbs < 2 ^ 53 := by unfold Fl.sg; cases s <;> simp <;> omega
    rw [small_round _ 1074 (by omega) hV] at hR
    subst hR
    obtain ⟨ho, hi⟩ := whole_back g 0 1074 rfl (by decide) hv
    exact walk_tiny x be mm g w hx' hf hz hbe hmm hor (by omega) hm ho hi
  have hm53 : 2 ^ 52 + mm < 2 ^ 53 := by omega
  have hread : Ieee.double.read x = .number s (2 ^ 52 + mm) (-((1075 - be : Nat) : Int)) := by
    rw [pr1 h0, show (be : Int) - 1075 = -((1075 - be : Nat) : Int) from by omega]
  obtain ⟨g, R, hz, hv, hR⟩ := near_small x s (2 ^ 52 + mm) (1075 - be) 1074 rfl hf hread (by omega) (by omega) hm53
  have hV : (Fl.sg s (2 ^ 52 + mm)).natAbs < 2 ^ 53 := by unfold Fl.sg; cases s <;> simp <;> omega
  by_cases h1 : be < 1015
  · rw [small_round _ (1075 - be) (by omega) hV] at hR
    subst hR
    obtain ⟨ho, hi⟩ := whole_back g 0 1074 rfl (by decide) hv
    exact walk_tiny x be mm g w hx' hf hz hbe hmm hor h1 hm ho hi
  have hRb := round_small (Fl.sg s (2 ^ 52 + mm)) (1075 - be) (by omega) hV
  rw [← hR] at hRb
  obtain ⟨ho, hi⟩ := whole_back g R 1074 rfl hRb hv
  have hsh := shifts be (Fl.sg s (2 ^ 52 + mm)) (by omega) (by omega) hV
  rw [← hR] at hsh
  cases s
  · have e : Fl.sg false (2 ^ 52 + mm) = (mm : Int) + 4503599627370496 := by unfold Fl.sg; simp; omega
    rw [e] at hsh
    exact walk_pos x be mm g R w hx' hf hz hbe hmm hor (by omega) (by omega) hm hs hsh ho hi
  · have e : Fl.sg true (2 ^ 52 + mm) = -((mm : Int) + 4503599627370496) := by unfold Fl.sg; simp; omega
    rw [e] at hsh
    exact walk_neg x be mm g R w hx' hf hz hbe hmm hor (by omega) (by omega) hm hs hsh ho hi

/-! ### THE ROW's STEP: WRITTEN OUT: LEAVE IT -/
set_option maxRecDepth 100000 in
theorem lifted (os : Os) (started : os.Started) (H : Type) (enc : TypeId × Value → H) :
    ReturnsInHanded {} Try.checked os 3 .any (Rows.propNearestIsExactHalfUpFloorSpec.pre6 enc Try.prog Try.f3 Rows.propNearestIsExactHalfUpFloorRow.domain false) (Rows.propNearestIsExactHalfUpFloorSpec.post enc Try.prog Try.f3 false true false false) := by
  refine returnsInHanded_of_change (C := Try.checked) own started (by kernel_rfl) Try.func3
    (ChangeSpec.witness6 (enc := enc) (C := Try.checked) false ⟨#[], #[.float .f64 0], []⟩ 8 (by kernel_rfl) (by kernel_rfl) (by kernel_rfl) (by kernel_rfl)) ?_
  intro W base args ds gs before hval0 hW hcnd _
  have hval : ∀ (j : Nat) t v, Try.f3.params[j]? = some t → args[j]? = some v → Value.okWide Try.prog W .any base t v := hval0
  have hW' := hW
  obtain ⟨p, q, hA0, hV, rfl, hfz, hnd⟩ := hW
  have hA : DataW.TrodAll enc Try.prog W 0 (fun _ => true) true Try.f3.params.toList args.toList ds p := hA0
  rw [Try.params3] at hA hval
  obtain ⟨v0, vs0, d0, ds0, p0, q0, hargs, rfl, rfl, h0, r0⟩ := trodAll_cons hA
  obtain ⟨rfl, rfl, rfl⟩ := trodAll_nil r0
  obtain rfl : args = #[v0] := by cases args; simp_all
  obtain ⟨rfl, rfl⟩ := trodVars_none hV
  obtain ⟨a0, rfl, rfl, rfl, w0⟩ := open_float Try.underlying22 (hval 0 22 v0 rfl rfl) h0
  clear hA0 hval0
  simp only [List.append_nil] at hW'
  refine (walk a0 (by simpa [Lit.wf] using w0) W).mono fun e W' ⟨he, hg⟩ => ?_
  subst he
  exact ⟨_, rfl, post_of_same (pa := []) (pv := []) hW' (fun _ _ _ => (trodAll_cons_mk (shut_bool Try.underlying4 _) trodAll_mk0)) (fun sp _ => (trodAll_cons_mk (shut_float Try.underlying22 w0) trodAll_mk0)) (fun _ _ => rfl) rfl
    (hg.frame _) hg.2.1 (ok_one (by kernel_rfl) rfl (okWide_bool_mk Try.underlying4 _))⟩

theorem over : Rows.propNearestIsExactHalfUpFloorRow.holds Try.pinned (OpenSpec.ofChange Rows.propNearestIsExactHalfUpFloorSpec) :=
  OpenClaim.holds_of_wide 3 Try.f3 rfl rfl rfl rfl rfl rfl rfl ⟨rfl, rfl, rfl, rfl, rfl⟩ rfl rfl rfl rfl rfl (by kernel_rfl) Try.func3 (by kernel_rfl)
    (of_decide_eq_true (by kernel_rfl)) (by unfold Func.isWrapper; first | (rw [if_pos (by decide +kernel)]; kernel_rfl) | (rw [if_neg (by decide +kernel)]; exact ⟨rfl, rfl⟩))
    (fun os started H enc _ => lifted os started H enc)

/-- ████ THE STATEMENT ████ -/
theorem proved : Rows.PropNearestIsExactHalfUpFloorSaid :=
  over
end Go.Proofs.Qxb6002620a.propNearestIsExactHalfUpFloor
