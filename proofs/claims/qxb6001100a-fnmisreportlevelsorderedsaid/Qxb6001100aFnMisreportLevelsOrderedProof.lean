/- 'Rows.FnMisreportLevelsOrderedSaid' PROVED: the walk of the law over the contracts; the row's step is the given shell's. -/
import Derived.Test.Qxb6001100aMis
import Derived.Test.Qxb6001100aRows
import Derived.WalkKit
import Derived.ProofKit
import Derived.OpenShut
import Derived.ShutString
namespace Go.Proofs.Qxb6001100a.fnMisreportLevelsOrdered
open Go.ChangeShapes Go.WideShapes Go.ChangeAt Go.RowKit
open Go.ChangeMaps (open_string shut_string)
set_option linter.unusedVariables false      -- a walk need not use every 'w<i>' (that an integer argument fits its kind)

theorem own : ownKnob Try.prog.godebug = none := by kernel_rfl

/-! ### THE WALK -/
theorem lev_order (u : Int) (h0 : 286 ≤ u) : lev kE u = 1 ∧ 1 ≤ lev kN u ∧ lev kN u ≤ lev kA u ∧ lev ⟨#[]⟩ u = 0 := by
  have rA : (kA == kA) = true := by decide
  have rN : (kN == kN) = true := by decide
  have rE : (kE == kE) = true := by decide
  have e1 : lev kA u = u * 80 / 10000 := by simp [lev, rA]
  have e2 : lev kN u = u * 35 / 10000 := by
    have : (kN == kA) = false := by decide
    simp [lev, this, rN]
  have e3 : lev kE u = 1 := by
    have h1 : (kE == kA) = false := by decide
    have h2 : (kE == kN) = false := by decide
    simp [lev, h1, h2, rE]
  have e4 : lev ⟨#[]⟩ u = 0 := by
    have h1 : ((⟨#[]⟩ : ByteArray) == kA) = false := by decide
    have h2 : ((⟨#[]⟩ : ByteArray) == kN) = false := by decide
    have h3 : ((⟨#[]⟩ : ByteArray) == kE) = false := by decide
    simp [lev, h1, h2, h3]
  rw [e1, e2, e3, e4]
  omega

set_option maxHeartbeats 400000 in
theorem walk (a0 : Int) (a1 : Bool) (w0 : (Lit.int .i64 a0).wf = true) (w : World) :
    Calls Try.prog 9 #[.int .i64 a0, .bool a1] w fun e w' => e = .returned (.bool true) ∧ Grown w w' := by
  by_cases h1 : a0 < 286
  · go_enter Try.func9, Try.ntmps9
    go_wp2
    go_ret
    exact ⟨rfl, Grown.refl _⟩
  · by_cases h2 : 72057594037927936 < a0
    · go_enter Try.func9, Try.ntmps9
      go_wp2
      go_ret
      exact ⟨rfl, Grown.refl _⟩
    · have h0 : 286 ≤ a0 := by omega
      have h3 : a0 ≤ 72057594037927936 := by omega
      obtain ⟨l1, l2, l3, l4⟩ := lev_order a0 h0
      have l5 := (lev_bounds kA a0 h0 h3).2
      have HL1 : Hid _ := l1
      have HL4 : Hid _ := l4
      clear l1 l4
      have HA := fun W => zzMisreport_any a0 a1 kA W h0 h3
      have HN := fun W => zzMisreport_any a0 a1 kN W h0 h3
      have HE := fun W => zzMisreport_any a0 a1 kE W h0 h3
      have HZ := fun W => zzMisreport_any a0 a1 ⟨#[]⟩ W h0 h3
      rw [HL1.out] at HE
      rw [HL4.out] at HZ
      generalize lev kA a0 = la at *
      generalize lev kN a0 = ln at *
      have HA' : Hid _ := HA
      have HN' : Hid _ := HN
      have HE' : Hid _ := HE
      have HZ' : Hid _ := HZ
      clear HA HN HE HZ HL1 HL4
      cases a1
      all_goals
        simp only [sgn] at HA' HN' HE' HZ'
        go_enter Try.func9, Try.ntmps9
        go_wp2_with fail
        refine Calls.mono (HA'.out _) ?_
        rintro e w1 ⟨rfl, g1⟩
        go_wp2_with fail
        refine Calls.mono (HN'.out _) ?_
        rintro e w2 ⟨rfl, g2⟩
        go_wp2_with fail
        refine Calls.mono (HE'.out _) ?_
        rintro e w3 ⟨rfl, g3⟩
        go_wp2_with fail
        refine Calls.mono (HZ'.out _) ?_
        rintro e w4 ⟨rfl, g4⟩
        have G : Hid (Grown w w4) := grown_trans (grown_trans (grown_trans g1 g2) g3) g4
        clear g1 g2 g3 g4
        go_wp2
        go_ret
        exact ⟨rfl, G.out⟩

/-! ### THE ROW's STEP: WRITTEN OUT: LEAVE IT -/
set_option maxRecDepth 100000 in
theorem lifted (os : Os) (started : os.Started) (H : Type) (enc : TypeId × Value → H) :
    ReturnsInHanded {} Try.checked os 9 .any (Rows.fnMisreportLevelsOrderedSpec.pre6 enc Try.prog Try.f9 Rows.fnMisreportLevelsOrderedRow.domain false) (Rows.fnMisreportLevelsOrderedSpec.post enc Try.prog Try.f9 false true false false) := by
  refine returnsInHanded_of_change (C := Try.checked) own started (by kernel_rfl) Try.func9
    (ChangeSpec.witness6 (enc := enc) (C := Try.checked) false ⟨#[], #[.int .i64 0, .bool false], []⟩ 8 (by kernel_rfl) (by kernel_rfl) (by kernel_rfl) (by kernel_rfl)) ?_
  intro W base args ds gs before hval0 hW hcnd _
  have hval : ∀ (j : Nat) t v, Try.f9.params[j]? = some t → args[j]? = some v → Value.okWide Try.prog W .any base t v := hval0
  have hW' := hW
  obtain ⟨p, q, hA0, hV, rfl, hfz, hnd⟩ := hW
  have hA : DataW.TrodAll enc Try.prog W 0 (fun _ => true) true Try.f9.params.toList args.toList ds p := hA0
  rw [Try.params9] at hA hval
  obtain ⟨v0, vs0, d0, ds0, p0, q0, hargs, rfl, rfl, h0, r0⟩ := trodAll_cons hA
  obtain ⟨v1, vs1, d1, ds1, p1, q1, rfl, rfl, rfl, h1, r1⟩ := trodAll_cons r0
  obtain ⟨rfl, rfl, rfl⟩ := trodAll_nil r1
  obtain rfl : args = #[v0, v1] := by cases args; simp_all
  obtain ⟨rfl, rfl⟩ := trodVars_none hV
  obtain ⟨a0, rfl, rfl, rfl, w0⟩ := open_int Try.underlying2 (hval 0 2 v0 rfl rfl) h0
  obtain ⟨a1, rfl, rfl, rfl⟩ := open_bool Try.underlying4 (hval 1 4 v1 rfl rfl) h1
  clear hA0 hval0
  simp only [List.append_nil] at hW'
  refine (walk a0 a1 w0 W).mono fun e W' ⟨he, hg⟩ => ?_
  subst he
  exact ⟨_, rfl, post_of_same (pa := []) (pv := []) hW' (fun _ _ _ => (trodAll_cons_mk (shut_bool Try.underlying4 _) trodAll_mk0)) (fun sp _ => (trodAll_cons_mk (shut_int Try.underlying2 w0) (trodAll_cons_mk (shut_bool Try.underlying4 _) trodAll_mk0))) (fun _ _ => rfl) rfl
    (hg.frame _) hg.2.1 (ok_one (by kernel_rfl) rfl (okWide_bool_mk Try.underlying4 _))⟩

theorem over : Rows.fnMisreportLevelsOrderedRow.holds Try.pinned (OpenSpec.ofChange Rows.fnMisreportLevelsOrderedSpec) :=
  OpenClaim.holds_of_wide 9 Try.f9 rfl rfl rfl rfl rfl rfl rfl ⟨rfl, rfl, rfl, rfl, rfl⟩ rfl rfl rfl rfl rfl (by kernel_rfl) Try.func9 (by kernel_rfl)
    (of_decide_eq_true (by kernel_rfl)) (by unfold Func.isWrapper; first | (rw [if_pos (by decide +kernel)]; kernel_rfl) | (rw [if_neg (by decide +kernel)]; exact ⟨rfl, rfl⟩))
    (fun os started H enc _ => lifted os started H enc)

/-- ████ THE STATEMENT ████ -/
theorem proved : Rows.FnMisreportLevelsOrderedSaid :=
  over
end Go.Proofs.Qxb6001100a.fnMisreportLevelsOrdered
