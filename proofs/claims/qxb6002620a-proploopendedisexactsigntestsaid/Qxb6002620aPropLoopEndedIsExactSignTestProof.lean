/- 'Rows.PropLoopEndedIsExactSignTestSaid' PROVED: the walk of the law over the contracts; the row's step after the guide's shells, at floats. -/
import Derived.Test.Qxb6002620aRows
import Derived.Test.Qxb6002620aFin
import Derived.WalkKit
import Derived.ProofKit
import Derived.OpenShut
import Derived.ShutString
import Derived.Laws.Cover2
namespace Go.Proofs.Qxb6002620a.propLoopEndedIsExactSignTest
open Go.ChangeShapes Go.WideShapes Go.ChangeAt Go.RowKit
open Go.ChangeMaps (open_string shut_string)
set_option linter.unusedVariables false
set_option linter.unusedSimpArgs false

theorem own : ownKnob Try.prog.godebug = none := by kernel_rfl

theorem grown_trans {a b c : World} (h : Grown a b) (k : Grown b c) : Grown a c := by
  refine ⟨?_, fun p => (k.2.1 p).trans (h.2.1 p), Nat.le_trans h.2.2 k.2.2⟩
  exact World.keptBut_trans h.1 k.1

theorem grown_drewN (w : World) (n : Nat) : Grown w (w.drewN n) := Grown.refl w

/-! ### THE WALK -/
theorem walk_out (v l s : Nat) (w : World) (h : fin v = false ∨ (fin v = true ∧ fin l = false) ∨ (fin v = true ∧ fin l = true ∧ fin s = false)) :
    Calls Try.prog 4 #[.float .f64 v, .float .f64 l, .float .f64 s] w fun e w' => e = .returned (.bool true) ∧ Grown w w' := by
  rcases h with h | ⟨h, h'⟩ | ⟨h, h', h''⟩
  · go_enter Try.func4, Try.ntmps4
    go_wp2_with fail
    refine (c1Finite_any v _).mono ?_
    rintro e w1 ⟨rfl, m, rfl⟩
    go_wp2
    go_ret
    exact ⟨rfl, grown_drewN _ _⟩
  · go_enter Try.func4, Try.ntmps4
    go_wp2_with fail
    refine (c1Finite_any v _).mono ?_
    rintro e w1 ⟨rfl, m, rfl⟩
    go_wp2_with fail
    refine (c1Finite_any l _).mono ?_
    rintro e w1 ⟨rfl, m', rfl⟩
    go_wp2
    go_ret
    exact ⟨rfl, grown_drewN _ _⟩
  · go_enter Try.func4, Try.ntmps4
    go_wp2_with fail
    refine (c1Finite_any v _).mono ?_
    rintro e w1 ⟨rfl, m, rfl⟩
    go_wp2_with fail
    refine (c1Finite_any l _).mono ?_
    rintro e w1 ⟨rfl, m', rfl⟩
    go_wp2_with fail
    refine (c1Finite_any s _).mono ?_
    rintro e w1 ⟨rfl, m'', rfl⟩
    go_wp2
    go_ret
    exact ⟨rfl, grown_drewN _ _⟩

set_option maxHeartbeats 1000000 in
theorem walk_in (v l s : Nat) (w : World) (h1 : fin v = true) (h2 : fin l = true) (h3 : fin s = true) :
    Calls Try.prog 4 #[.float .f64 v, .float .f64 l, .float .f64 s] w fun e w' => e = .returned (.bool true) ∧ Grown w w' := by
  go_enter Try.func4, Try.ntmps4
  go_wp2_with fail
  refine (c1Finite_any v _).mono ?_
  rintro e w1 ⟨rfl, m, rfl⟩
  go_wp2_with fail
  refine (c1Finite_any l _).mono ?_
  rintro e w1 ⟨rfl, m', rfl⟩
  go_wp2_with fail
  refine (c1Finite_any s _).mono ?_
  rintro e w1 ⟨rfl, m'', rfl⟩
  go_wp2_with fail
  refine (zzLoopEnded_any l s v _).mono ?_
  rintro e w1 ⟨rfl, hg⟩
  have HG : Hid (Grown w w1) := grown_trans (grown_drewN _ _) hg
  clear hg
  unfold endB
  cases o1 : (FloatKind.f64.format.order v l == some .gt) <;> cases o2 : (FloatKind.f64.format.order v l == some .lt) <;> cases o3 : (FloatKind.f64.format.order s 0 == some .gt) <;> cases o4 : (FloatKind.f64.format.order s 0 == some .lt)
  all_goals
    first
    | (exfalso
       have e1 := beq_iff_eq.1 o1
       have e2 := beq_iff_eq.1 o2
       rw [e1] at e2
       cases e2)
    | (exfalso
       have e1 := beq_iff_eq.1 o3
       have e2 := beq_iff_eq.1 o4
       rw [e1] at e2
       cases e2)
    | (go_wp2
       go_ret
       exact ⟨rfl, HG.out⟩)

theorem walk (v l s : Nat) (w : World) : Calls Try.prog 4 #[.float .f64 v, .float .f64 l, .float .f64 s] w fun e w' => e = .returned (.bool true) ∧ Grown w w' := by
  cases h1 : fin v
  · exact walk_out v l s w (.inl h1)
  · cases h2 : fin l
    · exact walk_out v l s w (.inr (.inl ⟨h1, h2⟩))
    · cases h3 : fin s
      · exact walk_out v l s w (.inr (.inr ⟨h1, h2, h3⟩))
      · exact walk_in v l s w h1 h2 h3

/-! ### THE ROW's STEP: WRITTEN OUT: LEAVE IT -/
set_option maxRecDepth 100000 in
theorem lifted (os : Os) (started : os.Started) (H : Type) (enc : TypeId × Value → H) :
    ReturnsInHanded {} Try.checked os 4 .any (Rows.propLoopEndedIsExactSignTestSpec.pre6 enc Try.prog Try.f4 Rows.propLoopEndedIsExactSignTestRow.domain false) (Rows.propLoopEndedIsExactSignTestSpec.post enc Try.prog Try.f4 false true false false) := by
  refine returnsInHanded_of_change (C := Try.checked) own started (by kernel_rfl) Try.func4
    (ChangeSpec.witness6 (enc := enc) (C := Try.checked) false ⟨#[], #[.float .f64 0, .float .f64 0, .float .f64 0], []⟩ 8 (by kernel_rfl) (by kernel_rfl) (by kernel_rfl) (by kernel_rfl)) ?_
  intro W base args ds gs before hval0 hW hcnd _
  have hval : ∀ (j : Nat) t v, Try.f4.params[j]? = some t → args[j]? = some v → Value.okWide Try.prog W .any base t v := hval0
  have hW' := hW
  obtain ⟨p, q, hA0, hV, rfl, hfz, hnd⟩ := hW
  have hA : DataW.TrodAll enc Try.prog W 0 (fun _ => true) true Try.f4.params.toList args.toList ds p := hA0
  rw [Try.params4] at hA hval
  obtain ⟨v0, vs0, d0, ds0, p0, q0, hargs, rfl, rfl, h0, r0⟩ := trodAll_cons hA
  obtain ⟨v1, vs1, d1, ds1, p1, q1, rfl, rfl, rfl, h1, r1⟩ := trodAll_cons r0
  obtain ⟨v2, vs2, d2, ds2, p2, q2, rfl, rfl, rfl, h2, r2⟩ := trodAll_cons r1
  obtain ⟨rfl, rfl, rfl⟩ := trodAll_nil r2
  obtain rfl : args = #[v0, v1, v2] := by cases args; simp_all
  obtain ⟨rfl, rfl⟩ := trodVars_none hV
  obtain ⟨a0, rfl, rfl, rfl, w0⟩ := open_float Try.underlying22 (hval 0 22 v0 rfl rfl) h0
  obtain ⟨a1, rfl, rfl, rfl, w1⟩ := open_float Try.underlying22 (hval 1 22 v1 rfl rfl) h1
  obtain ⟨a2, rfl, rfl, rfl, w2⟩ := open_float Try.underlying22 (hval 2 22 v2 rfl rfl) h2
  clear hA0 hval0
  simp only [List.append_nil] at hW'
  refine (walk a0 a1 a2 W).mono fun e W' ⟨he, hg⟩ => ?_
  subst he
  exact ⟨_, rfl, post_of_same (pa := []) (pv := []) hW' (fun _ _ _ => (trodAll_cons_mk (shut_bool Try.underlying4 _) trodAll_mk0)) (fun sp _ => (trodAll_cons_mk (shut_float Try.underlying22 w0) (trodAll_cons_mk (shut_float Try.underlying22 w1) (trodAll_cons_mk (shut_float Try.underlying22 w2) trodAll_mk0)))) (fun _ _ => rfl) rfl
    (hg.frame _) hg.2.1 (ok_one (by kernel_rfl) rfl (okWide_bool_mk Try.underlying4 _))⟩

theorem over : Rows.propLoopEndedIsExactSignTestRow.holds Try.pinned (OpenSpec.ofChange Rows.propLoopEndedIsExactSignTestSpec) :=
  OpenClaim.holds_of_wide 4 Try.f4 rfl rfl rfl rfl rfl rfl rfl ⟨rfl, rfl, rfl, rfl, rfl⟩ rfl rfl rfl rfl rfl (by kernel_rfl) Try.func4 (by kernel_rfl)
    (of_decide_eq_true (by kernel_rfl)) (by unfold Func.isWrapper; first | (rw [if_pos (by decide +kernel)]; kernel_rfl) | (rw [if_neg (by decide +kernel)]; exact ⟨rfl, rfl⟩))
    (fun os started H enc _ => lifted os started H enc)

/-- ████ THE STATEMENT ████ -/
theorem proved : Rows.PropLoopEndedIsExactSignTestSaid :=
  over
end Go.Proofs.Qxb6002620a.propLoopEndedIsExactSignTest
