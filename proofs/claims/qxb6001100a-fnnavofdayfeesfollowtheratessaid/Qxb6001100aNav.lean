/- THE WALKS OF halfUp, dailyAccrual, navOfDay (no holdings, no balances), ZZNavOfDay (nothing but the previous net assets). -/
import Derived.Test.Qxb6001100aMis
namespace Go.Proofs.Qxb6001100a
open Go.RowKit
set_option linter.unusedVariables false
set_option linter.unusedSimpArgs false

theorem quiet_same {P : Program} {f : FuncId} {args : Array Value} {w : World} {n : Nat} {v : Value}
    (h : Calls P f args (w.drewN n) fun e w' => e = .returned v ∧ w.drewN n = w') : Calls P f args (w.drewN n) fun e w'' => e = .returned v ∧ ∃ m, w'' = w.drewN m :=
  h.mono fun _ _ ⟨he, hm⟩ => ⟨he, n, hm.symm⟩

/-- A day's fee: a / 3650000, rounded half up. -/
def hu (a : Int) : Int := (2 * a + 3650000) / 7300000

theorem halfUp_any (a : Int) (w : World) (h0 : 0 ≤ a) (h1 : a ≤ 4000000000000000000) :
    Calls Try.prog 28 #[.int .i64 a, .int .i64 3650000] w fun e w' => e = .returned (.int .i64 (hu a)) ∧ w = w' := by
  unfold hu
  go_enter Try.func28, Try.ntmps28
  go_wp2
  go_ret
  exact ⟨rfl, rfl⟩

theorem daily70 (a : Int) (w : World) (h0 : 0 ≤ a) (h1 : a ≤ 36028797018963968) :
    Calls Try.prog 26 #[.int .i64 a, .int .i64 70] w fun e w' => e = .returned (.int .i64 (hu (a * 70))) ∧ w = w' := by
  go_enter Try.func26, Try.ntmps26
  go_wp2_with (go_at_call 28; refine (halfUp_any _ _ ?_ ?_).mono ?_; omega; omega; rintro e w' ⟨rfl, rfl⟩)
  go_ret
  exact ⟨rfl, rfl⟩

theorem daily20 (a : Int) (w : World) (h0 : 0 ≤ a) (h1 : a ≤ 36028797018963968) :
    Calls Try.prog 26 #[.int .i64 a, .int .i64 20] w fun e w' => e = .returned (.int .i64 (hu (a * 20))) ∧ w = w' := by
  go_enter Try.func26, Try.ntmps26
  go_wp2_with (go_at_call 28; refine (halfUp_any _ _ ?_ ?_).mono ?_; omega; omega; rintro e w' ⟨rfl, rfl⟩)
  go_ret
  exact ⟨rfl, rfl⟩

theorem daily40 (a : Int) (w : World) (h0 : 0 ≤ a) (h1 : a ≤ 36028797018963968) :
    Calls Try.prog 26 #[.int .i64 a, .int .i64 40] w fun e w' => e = .returned (.int .i64 (hu (a * 40))) ∧ w = w' := by
  go_enter Try.func26, Try.ntmps26
  go_wp2_with (go_at_call 28; refine (halfUp_any _ _ ?_ ?_).mono ?_; omega; omega; rintro e w' ⟨rfl, rfl⟩)
  go_ret
  exact ⟨rfl, rfl⟩

theorem daily_any (a r : Int) (w : World) (h0 : 0 ≤ a) (h1 : a ≤ 36028797018963968) (hr : r = 70 ∨ r = 20 ∨ r = 40) :
    Calls Try.prog 26 #[.int .i64 a, .int .i64 r] w fun e w' => e = .returned (.int .i64 (hu (a * r))) ∧ w = w' := by
  rcases hr with rfl | rfl | rfl
  · exact daily70 a w h0 h1
  · exact daily20 a w h0 h1
  · exact daily40 a w h0 h1

theorem hu_bounds (a : Int) (h0 : 0 ≤ a) (h1 : a ≤ 4000000000000000000) : 0 ≤ hu a ∧ hu a ≤ 2000000000000 := by unfold hu; omega

/-- The fees of one day. -/
def fees (p0 p1 : Int) : Int := hu ((p0 + p1) * 70) + hu ((p0 + p1) * 20) + hu (p1 * 40)

theorem navOfDay_any (g : Nat) (p0 p1 : Int) (w : World) (h0 : 0 ≤ p0) (h1 : p0 ≤ 18014398509481984) (h2 : 0 ≤ p1) (h3 : p1 ≤ 18014398509481984)
    (c11 : w.cell? ⟨g, 11, none⟩ = some (.slice none 0 0)) (c12 : w.cell? ⟨g, 12, none⟩ = some (.slice none 0 0)) (c13 : w.cell? ⟨g, 13, none⟩ = some (.int .i64 p0)) (c14 : w.cell? ⟨g, 14, none⟩ = some (.int .i64 p1)) :
    Calls Try.prog 22 #[.pointer (some ⟨g, 0, none⟩)] w fun e w' => e = .returned (.int .i64 (-(3 * fees p0 p1))) ∧ Grown w w' := by
  have b1 := hu_bounds ((p0 + p1) * 70) (by omega) (by omega)
  have b2 := hu_bounds ((p0 + p1) * 20) (by omega) (by omega)
  have b3 := hu_bounds (p1 * 40) (by omega) (by omega)
  obtain ⟨b11, b12⟩ := b1
  obtain ⟨b21, b22⟩ := b2
  obtain ⟨b31, b32⟩ := b3
  unfold fees
  go_enter Try.func22, Try.ntmps22
  go_wp2
  refine wp_loop_rounds 1 ?_
  rw [rounds_succ]
  go_wp2
  refine wp_loop_rounds 1 ?_
  rw [rounds_succ]
  go_wp2
  go_quiet (fail)
  go_wp2
  obtain ⟨W, hW⟩ : ∃ W, W = w.drewN nq := ⟨_, rfl⟩
  have d14 : W.cell? ⟨g, 14, none⟩ = some (.int .i64 p1) := by rw [hW]; exact c14
  have HG : Hid (Grown w W) := by rw [hW]; exact Grown.refl w
  rw [← hW]
  clear hW c11 c12 c13 c14
  go_quiet ((go_at_call 26; refine quiet_same (daily_any _ _ _ ?_ ?_ ?_) <;> omega))
  go_wp2
  go_ret
  exact ⟨rfl, HG.out⟩

theorem zzNavOfDay_any (p0 p1 : Int) (w : World) (h0 : 0 ≤ p0) (h1 : p0 ≤ 18014398509481984) (h2 : 0 ≤ p1) (h3 : p1 ≤ 18014398509481984) :
    Calls Try.prog 13 #[.slice none 0 0, .slice none 0 0, .slice none 0 0, .slice none 0 0, .slice none 0 0, .int .i64 p0, .int .i64 p1] w fun e w' => e = .returned (.int .i64 (-(3 * fees p0 p1))) ∧ Grown w w' := by
  go_enter Try.func13, Try.ntmps13
  go_wp2
  refine wp_loop_rounds 1 ?_
  rw [rounds_succ]
  go_wp2
  refine wp_loop_rounds 1 ?_
  rw [rounds_succ]
  go_wp2_with fail
  refine (navOfDay_any w.heap.size p0 p1 _ h0 h1 h2 h3 (by simp) (by simp) (by simp) (by simp)).mono ?_
  rintro e w1 ⟨rfl, hg⟩
  go_wp2
  go_ret
  exact ⟨rfl, grown_trans ((Grown.refl _).alloc _ _) hg⟩

end Go.Proofs.Qxb6001100a
