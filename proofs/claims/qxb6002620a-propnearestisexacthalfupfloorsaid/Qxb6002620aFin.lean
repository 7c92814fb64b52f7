/- THE WALKS OF c1Finite, ended, ZZLoopEnded. -/
import Derived.Test.Qxb6002620aProg
import Derived.Test.Qxb6002620aIeee
import Derived.WalkKit
import Derived.WalkSpells
import Derived.WalkSmall
import Derived.WalkLawsBesides
import Derived.Deep.QuietTactic
import Derived.BigQuiet
import Derived.Laws.FloatArith
namespace Go.Proofs.Qxb6002620a
open Go.RowKit
set_option linter.unusedVariables false
set_option linter.unusedSimpArgs false

theorem ret_bool {a b : Bool} (h : a = b) : Ending.returned (.bool a) = .returned (.bool b) := by rw [h]

/-- A finite double, by its bits. -/
def fin (x : Nat) : Bool := decide (x % 2 ^ 63 < 2047 * 2 ^ 52)

theorem read_fin {x : Nat} (h : fin x = true) : ∃ s m i, FloatKind.f64.format.read x = .number s m i := by
  unfold fin at h
  simp only [decide_eq_true_eq] at h
  show ∃ s m i, Ieee.double.read x = .number s m i
  rw [Fl.read_eq]
  by_cases h1 : x % 2 ^ 63 < 2 ^ 52
  · rw [if_pos h1]; exact ⟨_, _, _, rfl⟩
  · rw [if_neg h1, if_pos h]; exact ⟨_, _, _, rfl⟩

theorem read_inf {x : Nat} (h : x % 2 ^ 63 = 2047 * 2 ^ 52) : ∃ s, FloatKind.f64.format.read x = .infinity s := by
  show ∃ s, Ieee.double.read x = .infinity s
  rw [Fl.read_eq, if_neg (by omega), if_neg (by omega), if_pos h]
  exact ⟨_, rfl⟩

theorem read_nan {x : Nat} (h : 2047 * 2 ^ 52 < x % 2 ^ 63) : ∃ s t, FloatKind.f64.format.read x = .nan s t := by
  show ∃ s t, Ieee.double.read x = .nan s t
  rw [Fl.read_eq, if_neg (by omega), if_neg (by omega), if_neg (by omega)]
  exact ⟨_, _, rfl⟩

theorem order_self_fin {x : Nat} (h : fin x = true) : FloatKind.f64.format.order x x = some .eq := by
  obtain ⟨s, m, i, e⟩ := read_fin h
  unfold Ieee.Format.order
  rw [e]
  simp [Ieee.Datum.order]

theorem order_self_inf {x : Nat} (h : x % 2 ^ 63 = 2047 * 2 ^ 52) : FloatKind.f64.format.order x x = some .eq := by
  obtain ⟨s, e⟩ := read_inf h
  unfold Ieee.Format.order
  rw [e]
  simp [Ieee.Datum.order]

theorem order_self_nan {x : Nat} (h : 2047 * 2 ^ 52 < x % 2 ^ 63) (y : Nat) : FloatKind.f64.format.order x y = none := by
  obtain ⟨s, t, e⟩ := read_nan h
  unfold Ieee.Format.order
  rw [e]
  simp [Ieee.Datum.order]

theorem sub_self_fin {x : Nat} (h : fin x = true) : floatBits .sub .f64 x x = some 0 := by
  obtain ⟨s, m, i, e⟩ := read_fin h
  unfold floatBits
  simp only
  unfold Ieee.Format.sub
  rw [e]
  simp only [Ieee.Datum.opposite, Ieee.Datum.sum, Option.map_some, Option.some.injEq]
  have : Ieee.signed s m (i - min i i).toNat + Ieee.signed (!s) m (i - min i i).toNat = 0 := by
    unfold Ieee.signed
    cases s <;> simp <;> omega
  rw [this]
  cases s <;> rfl

theorem sub_self_inf {x : Nat} (h : x % 2 ^ 63 = 2047 * 2 ^ 52) : FloatKind.f64.format.sub x x = none := by
  obtain ⟨s, e⟩ := read_inf h
  unfold Ieee.Format.sub
  rw [e]
  cases s <;> rfl

theorem nan_cut (x y t : Nat) : 2047 * 2 ^ 52 < (Question.nanBits .f64 x y).cut t % 2 ^ 63 := by
  have h : (Question.nanBits .f64 x y).cut t = (t % 2) * 2 ^ 63 + 0x7ff0000000000000 + 1 + (t / 2) % (2 ^ 52 - 1) := rfl
  rw [h]
  have h1 : (t / 2) % (2 ^ 52 - 1) < 2 ^ 52 - 1 := Nat.mod_lt _ (by decide)
  generalize (t / 2) % (2 ^ 52 - 1) = q at *
  rcases Nat.mod_two_eq_zero_or_one t with h2 | h2
  · rw [h2, Nat.mod_eq_of_lt (by omega)]; omega
  · rw [h2, show 1 * 2 ^ 63 + 0x7ff0000000000000 + 1 + q = (0x7ff0000000000000 + 1 + q) + 2 ^ 63 from by omega, Nat.add_mod_right, Nat.mod_eq_of_lt (by omega)]
    omega

/-- A subtraction that has no answer: the tape gives a NaN. -/
theorem run_sub_none (t : TypeId) (x y : Nat) (w : World) (h : FloatKind.f64.format.sub x y = none) :
    ∃ r, (binOp .sub t (.float .f64 x) (.float .f64 y)).run Try.prog w = .ok (.float .f64 r) w.drew ∧ ∀ z, FloatKind.f64.format.order r z = none := by
  refine ⟨(Question.nanBits .f64 x y).cut (w.tape w.drawn (.nanBits .f64 x y)), ?_, fun z => order_self_nan (nan_cut _ _ _) z⟩
  simp [binOp, Op.floatArith, h, choose, Sem.run]
  intro hh
  cases hh

theorem c1Finite_any (x : Nat) (w : World) : Calls Try.prog 5 #[.float .f64 x] w fun e w' => e = .returned (.bool (fin x)) ∧ ∃ m, w' = w.drewN m := by
  by_cases hf : fin x = true
  · have h1 := order_self_fin hf
    have h2 := fun w => run_float_arith (P := Try.prog) w .sub 22 .f64 x x 0 (sub_self_fin hf)
    have h3 : FloatKind.f64.format.order 0 0 = some .eq := by rfl
    rw [hf]
    clear hf
    go_enter Try.func5, Try.ntmps5
    go_wp2
    go_ret
    exact ⟨rfl, 0, rfl⟩
  · have hf' : fin x = false := by simpa using hf
    rw [hf']
    have h0 : ¬ x % 2 ^ 63 < 2047 * 2 ^ 52 := by unfold fin at hf'; simpa using hf'
    clear hf hf'
    by_cases hi : x % 2 ^ 63 = 2047 * 2 ^ 52
    · have h1 := order_self_inf hi
      obtain ⟨r, h2, h3⟩ := run_sub_none 22 x x w (sub_self_inf hi)
      clear h0 hi
      go_enter Try.func5, Try.ntmps5
      go_wp2
      go_ret
      exact ⟨rfl, 1, rfl⟩
    · have h1 := order_self_nan (x := x) (by omega) x
      clear h0 hi
      go_enter Try.func5, Try.ntmps5
      go_wp2
      go_ret
      exact ⟨rfl, 0, rfl⟩

/-- Has the loop ended? -/
def endB (l s v : Nat) : Bool :=
  if FloatKind.f64.format.order s 0 == some .gt then FloatKind.f64.format.order v l == some .gt
  else if FloatKind.f64.format.order s 0 == some .lt then FloatKind.f64.format.order v l == some .lt else false

theorem ended_any (l s v : Nat) (b : Bool) (w : World) : Calls Try.prog 10 #[.agg #[.float .f64 l, .float .f64 s, .bool b], .float .f64 v] w fun e w' => e = .returned (.bool (endB l s v)) ∧ Grown w w' := by
  unfold endB
  cases h1 : (FloatKind.f64.format.order s 0 == some .gt)
  · cases h2 : (FloatKind.f64.format.order s 0 == some .lt)
    all_goals
      go_enter Try.func10, Try.ntmps10
      go_wp2
      go_ret
      exact ⟨rfl, (Grown.refl _).alloc _ _⟩
  · go_enter Try.func10, Try.ntmps10
    go_wp2
    go_ret
    exact ⟨rfl, (Grown.refl _).alloc _ _⟩

theorem zzLoopEnded_any (l s v : Nat) (w : World) : Calls Try.prog 8 #[.float .f64 l, .float .f64 s, .float .f64 v] w fun e w' => e = .returned (.bool (endB l s v)) ∧ Grown w w' := by
  go_enter Try.func8, Try.ntmps8
  go_wp2_with fail
  refine (ended_any l s v true _).mono ?_
  rintro e w1 ⟨rfl, hg⟩
  go_wp2
  go_ret
  exact ⟨rfl, hg⟩

end Go.Proofs.Qxb6002620a
