/- 'Rows.FnCompositionAccountsForWholeFundSaid' PROVED: the walk of the law over the contracts; the row's step is the given shell's. -/
import Derived.Test.Qxb6001100aZComp
import Derived.Test.Qxb6001100aRows
import Derived.WalkKit
import Derived.ProofKit
import Derived.OpenShut
import Derived.ShutString
namespace Go.Proofs.Qxb6001100a.fnCompositionAccountsForWholeFund
open Go.ChangeShapes Go.WideShapes Go.ChangeAt Go.RowKit
open Go.ChangeMaps (open_string shut_string)
set_option linter.unusedVariables false      -- a walk need not use every 'w<i>' (that an integer argument fits its kind)

theorem own : ownKnob Try.prog.godebug = none := by kernel_rfl

/-! ### THE WALK -/
theorem ret_bool {a b : Bool} (h : a = b) : Ending.returned (.bool a) = .returned (.bool b) := by rw [h]

theorem zzBytes_any (s : ByteArray) (w : World) (hm : s.size ≤ maxLen) :
    Calls Try.prog 18 #[.string s] w fun e w' => e = .returned (.bool (decide (s.size ≤ 1048576))) ∧ w = w' := by
  unfold maxLen at hm
  by_cases h : s.size ≤ 1048576
  all_goals
    go_enter Try.func18, Try.ntmps18
    go_wp2
    go_ret
    exact ⟨ret_bool (by simp [h]), rfl⟩

set_option maxHeartbeats 1000000 in
theorem walk (a0 : ByteArray) (w0 : a0.size ≤ maxLen) (w : World) :
    Calls Try.prog 7 #[.string a0] w fun e w' => e = .returned (.bool true) ∧ Grown w w' := by
  have HM : Hid (a0.size ≤ maxLen) := w0
  unfold maxLen at w0
  by_cases h1 : a0.size ≤ 1048576
  · by_cases h2 : a0.size ≤ 65536
    · have hd : decide (a0.size ≤ 1048576) = true := decide_eq_true h1
      have hd2 : decide ((65536 : Int) < (a0.size : Int)) = false := decide_eq_false (by omega)
      go_enter Try.func7, Try.ntmps7
      go_wp2_with (go_at_call 18; refine (zzBytes_any _ _ HM.out).mono ?_; rintro e w' ⟨rfl, rfl⟩)
      refine (compositionArr_any a0 _).mono ?_
      rintro e w1 ⟨c, a, sg, lg, pb, dep, res, repo, restr, hgood, rfl, hg⟩
      obtain ⟨W, hW⟩ : ∃ W, W = w1.alloc (.cells #[I c, I a, I sg, I lg, I pb, I dep, I res, I repo, I restr, I 5] 35) := ⟨_, rfl⟩
      have HG : Hid (Grown w W) := by rw [hW]; exact Grown.alloc hg _ _
      have hc : ∀ j, W.cell? ⟨w1.heap.size, j, none⟩ = (#[I c, I a, I sg, I lg, I pb, I dep, I res, I repo, I restr, I 5])[j]? := by intro j; rw [hW]; simp
      have HC : Hid _ := hc
      obtain ⟨⟨g1, g2⟩, ⟨g3, g4⟩, ⟨g5, g6⟩, ⟨g7, g8⟩, ⟨g9, g10⟩, ⟨g11, g12⟩, ⟨g13, g14⟩, ⟨g15, g16⟩, ⟨g17, g18⟩, g19⟩ := hgood
      have HS : Hid (c + a + sg + lg + pb + dep + res - repo = 10000) := g19
      have hs : (c + a + sg + lg + pb + dep + res - repo != 10000) = false := by simp [g19]
      have hin : Hid (∀ j, j < 9 → ∃ d, W.cell? ⟨w1.heap.size, j, none⟩ = some (I d) ∧ 0 ≤ d ∧ d ≤ 10000) := by
        intro j hj
        rw [hc j]
        rcases (show j = 0 ∨ j = 1 ∨ j = 2 ∨ j = 3 ∨ j = 4 ∨ j = 5 ∨ j = 6 ∨ j = 7 ∨ j = 8 by omega) with rfl | rfl | rfl | rfl | rfl | rfl | rfl | rfl | rfl
        · exact ⟨c, rfl, g1, g2⟩
        · exact ⟨a, rfl, g3, g4⟩
        · exact ⟨sg, rfl, g5, g6⟩
        · exact ⟨lg, rfl, g7, g8⟩
        · exact ⟨pb, rfl, g9, g10⟩
        · exact ⟨dep, rfl, g11, g12⟩
        · exact ⟨res, rfl, g13, g14⟩
        · exact ⟨repo, rfl, g15, g16⟩
        · exact ⟨restr, rfl, g17, by omega⟩
      clear hg g19
      have c9 : W.cell? ⟨w1.heap.size, 9, none⟩ = some (I 5) := by rw [hc]; rfl
      clear hc
      go_wp2_with fail
      rw [← hW]
      clear hW
      go_loop [4] (fun i => ∃ j : Nat, j ≤ 9 ∧ i = .int .i64 j) (fun i => 9 - (intOf i).toNat)
      case atStart => exact ⟨0, Nat.zero_le _, rfl⟩
      case round =>
        obtain ⟨j, hj, rfl⟩ := hrel
        by_cases hlt : j < 9
        · obtain ⟨d, hcell, d0, d1⟩ := hin.out j hlt
          have hlt' : (j : Int) < 9 := by omega
          go_wp2
          go_round
          case rel => exact ⟨j + 1, by omega, by go_num⟩
          case measure => simp [intOf]; omega
        · have hc : ∀ j, W.cell? ⟨w1.heap.size, j, none⟩ = (#[I c, I a, I sg, I lg, I pb, I dep, I res, I repo, I restr, I 5])[j]? := HC.out
          clear c9
          go_wp2
          go_ret
          exact ⟨rfl, HG.out⟩
    · have hd : decide (a0.size ≤ 1048576) = true := decide_eq_true h1
      go_enter Try.func7, Try.ntmps7
      go_wp2_with (go_at_call 18; refine (zzBytes_any _ _ HM.out).mono ?_; rintro e w' ⟨rfl, rfl⟩)
      go_ret
      exact ⟨rfl, Grown.refl _⟩
  · have hd : decide (a0.size ≤ 1048576) = false := decide_eq_false h1
    go_enter Try.func7, Try.ntmps7
    go_wp2_with (go_at_call 18; refine (zzBytes_any _ _ HM.out).mono ?_; rintro e w' ⟨rfl, rfl⟩)
    go_ret
    exact ⟨rfl, Grown.refl _⟩

/-! ### THE ROW's STEP: WRITTEN OUT: LEAVE IT -/
set_option maxRecDepth 100000 in
theorem lifted (os : Os) (started : os.Started) (H : Type) (enc : TypeId × Value → H) :
    ReturnsInHanded {} Try.checked os 7 .any (Rows.fnCompositionAccountsForWholeFundSpec.pre6 enc Try.prog Try.f7 Rows.fnCompositionAccountsForWholeFundRow.domain false) (Rows.fnCompositionAccountsForWholeFundSpec.post enc Try.prog Try.f7 false true false false) := by
  refine returnsInHanded_of_change (C := Try.checked) own started (by kernel_rfl) Try.func7
    (ChangeSpec.witness6 (enc := enc) (C := Try.checked) false ⟨#[], #[.string ByteArray.empty], []⟩ 8 (by kernel_rfl) (by kernel_rfl) (by kernel_rfl) (by kernel_rfl)) ?_
  intro W base args ds gs before hval0 hW hcnd _
  have hval : ∀ (j : Nat) t v, Try.f7.params[j]? = some t → args[j]? = some v → Value.okWide Try.prog W .any base t v := hval0
  have hW' := hW
  obtain ⟨p, q, hA0, hV, rfl, hfz, hnd⟩ := hW
  have hA : DataW.TrodAll enc Try.prog W 0 (fun _ => true) true Try.f7.params.toList args.toList ds p := hA0
  rw [Try.params7] at hA hval
  obtain ⟨v0, vs0, d0, ds0, p0, q0, hargs, rfl, rfl, h0, r0⟩ := trodAll_cons hA
  obtain ⟨rfl, rfl, rfl⟩ := trodAll_nil r0
  obtain rfl : args = #[v0] := by cases args; simp_all
  obtain ⟨rfl, rfl⟩ := trodVars_none hV
  obtain ⟨a0, rfl, rfl, rfl, w0⟩ := open_string Try.underlying9 (hval 0 9 v0 rfl rfl) h0
  clear hA0 hval0
  simp only [List.append_nil] at hW'
  refine (walk a0 w0 W).mono fun e W' ⟨he, hg⟩ => ?_
  subst he
  exact ⟨_, rfl, post_of_same (pa := []) (pv := []) hW' (fun _ _ _ => (trodAll_cons_mk (shut_bool Try.underlying4 _) trodAll_mk0)) (fun sp _ => (trodAll_cons_mk (shut_string Try.underlying9 w0) trodAll_mk0)) (fun _ _ => rfl) rfl
    (hg.frame _) hg.2.1 (ok_one (by kernel_rfl) rfl (okWide_bool_mk Try.underlying4 _))⟩

theorem over : Rows.fnCompositionAccountsForWholeFundRow.holds Try.pinned (OpenSpec.ofChange Rows.fnCompositionAccountsForWholeFundSpec) :=
  OpenClaim.holds_of_wide 7 Try.f7 rfl rfl rfl rfl rfl rfl rfl ⟨rfl, rfl, rfl, rfl, rfl⟩ rfl rfl rfl rfl rfl (by kernel_rfl) Try.func7 (by kernel_rfl)
    (of_decide_eq_true (by kernel_rfl)) (by unfold Func.isWrapper; first | (rw [if_pos (by decide +kernel)]; kernel_rfl) | (rw [if_neg (by decide +kernel)]; exact ⟨rfl, rfl⟩))
    (fun os started H enc _ => lifted os started H enc)

/-- ████ THE STATEMENT ████ -/
theorem proved : Rows.FnCompositionAccountsForWholeFundSaid :=
  over
end Go.Proofs.Qxb6001100a.fnCompositionAccountsForWholeFund
