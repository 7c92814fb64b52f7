/- THE WALKS OF math.Floor, nearest, ZZNearest, math.Float64bits. -/
import Derived.Test.Qxb6002620aFin
import Derived.Test.Qxb6002620aHalf
import Derived.Laws.Externs
namespace Go.Proofs.Qxb6002620a
open Go.RowKit
set_option linter.unusedVariables false
set_option linter.unusedSimpArgs false

/-- floor, by the bits. -/
def flr (x : Nat) : Nat := Ieee.double.write ((Ieee.double.read x).integral .down)

theorem toIntegral_run (x : Nat) (s : Bool) (m : Nat) (i : Int) (h2 : FloatKind.f64.decode x = .number s m i) (w : World) :
    (Extern.MathFloor.toIntegral "math.archFloor" .down #[.float .f64 x]).run Try.prog w = .ok (.float .f64 (FloatKind.f64.encode ((Ieee.Datum.number s m i).integral .down))) w := by
  show Sem.run Try.prog (match FloatKind.f64.decode x with | .nan s t => _ | d => pure (Value.float .f64 (FloatKind.f64.encode (d.integral .down)))) w = _
  rw [h2]
  rfl

theorem archFloor_run (x : Nat) (h : fin x = true) (w : World) : (callFunc 12 #[.float .f64 x]).run Try.prog w = .ok (.value (.float .f64 (flr x))) w := by
  obtain ⟨s, m, i, e⟩ := read_fin h
  have e' : Ieee.double.read x = .number s m i := e
  rw [run_callFunc_extern (e := Go.Extern.MathFloor.toIntegral "math.archFloor" .down) Try.func12 (by rfl) (by rfl) (by kernel_rfl) (by kernel_rfl)]
  unfold flr
  rw [e']
  rw [toIntegral_run x s m i e]
  rfl

theorem float64bits_run (x : Nat) (w : World) : (callFunc 7 #[.float .f64 x]).run Try.prog w = .ok (.value (.int .u64 x)) w := by
  rw [run_callFunc_extern (e := Go.Extern.MathFloatBits.float64bits) Try.func7 (by rfl) (by rfl) (by kernel_rfl) (by kernel_rfl)]
  rfl

theorem floor_any (x : Nat) (w : World) (h : fin x = true) : Calls Try.prog 11 #[.float .f64 x] w fun e w' => e = .returned (.float .f64 (flr x)) ∧ w = w' := by
  have h12 := archFloor_run x h
  clear h
  go_enter Try.func11, Try.ntmps11
  go_wp2
  go_ret
  exact ⟨rfl, rfl⟩

theorem nearest_lt (x fw dw : Nat) (w : World) (h : fin x = true) (hf : flr x = fw) (hs : FloatKind.f64.format.sub x fw = some dw) (ho : FloatKind.f64.format.order dw 4602678819172646912 = some .lt) :
    Calls Try.prog 9 #[.float .f64 x] w fun e w' => e = .returned (.float .f64 fw) ∧ w = w' := by
  have h11 := floor_any x w h
  rw [hf] at h11
  have h2 := fun w => run_float_arith (P := Try.prog) w .sub 22 .f64 x fw dw hs
  have H : Hid _ := h11
  clear h11 hf h hs
  go_enter Try.func9, Try.ntmps9
  go_wp2_with fail
  refine Calls.mono H.out ?_
  rintro e w' ⟨rfl, rfl⟩
  go_wp2
  go_ret
  exact ⟨rfl, rfl⟩

theorem nearest_ge (x fw dw gw : Nat) (w : World) (h : fin x = true) (hf : flr x = fw) (hs : FloatKind.f64.format.sub x fw = some dw) (ho : FloatKind.f64.format.order dw 4602678819172646912 = some .gt ∨ FloatKind.f64.format.order dw 4602678819172646912 = some .eq) (ha : FloatKind.f64.format.add fw 4607182418800017408 = some gw) :
    Calls Try.prog 9 #[.float .f64 x] w fun e w' => e = .returned (.float .f64 gw) ∧ w = w' := by
  have h11 := floor_any x w h
  rw [hf] at h11
  have h2 := fun w => run_float_arith (P := Try.prog) w .sub 22 .f64 x fw dw hs
  have h3 := fun w => run_float_arith (P := Try.prog) w .add 22 .f64 fw 4607182418800017408 gw ha
  have H : Hid _ := h11
  clear h11 hf h hs ha
  rcases ho with ho | ho
  all_goals
    go_enter Try.func9, Try.ntmps9
    go_wp2_with fail
    refine Calls.mono H.out ?_
    rintro e w' ⟨rfl, rfl⟩
    go_wp2
    go_ret
    exact ⟨rfl, rfl⟩

theorem zzNearest_of (x g : Nat) (w : World) (h : Calls Try.prog 9 #[.float .f64 x] w fun e w' => e = .returned (.float .f64 g) ∧ w = w') :
    Calls Try.prog 6 #[.float .f64 x] w fun e w' => e = .returned (.float .f64 g) ∧ w = w' := by
  have H : Hid _ := h
  clear h
  go_enter Try.func6, Try.ntmps6
  go_wp2_with fail
  refine Calls.mono H.out ?_
  rintro e w' ⟨rfl, rfl⟩
  go_wp2
  go_ret
  exact ⟨rfl, rfl⟩

/-- What 'nearest' hands back: a great double is its own; else the double of the whole number that is nearest, a half rounded up. -/
theorem near_great (x : Nat) (s : Bool) (m : Nat) (i : Int) (w : World) (hx : x < 2 ^ 64) (h : fin x = true) (hread : Ieee.double.read x = .number s m i) (hi : 0 ≤ i) :
    Calls Try.prog 6 #[.float .f64 x] w fun e w' => e = .returned (.float .f64 x) ∧ w = w' := by
  have hf : flr x = x := Fl.floor_great x s m i hx hread hi (by unfold fin at h; simpa using h)
  exact zzNearest_of x x w (nearest_lt x x 0 w h hf (sub_self_fin h) (by rfl))

theorem near_small (x : Nat) (s : Bool) (m S E : Nat) (hE : E = 1074) (h : fin x = true) (hread : Ieee.double.read x = .number s m (-(S : Int))) (hS1 : 1 ≤ S) (hS2 : S ≤ 1074) (hm : m < 2 ^ 53) :
    ∃ g R, (∀ w, Calls Try.prog 6 #[.float .f64 x] w fun e w' => e = .returned (.float .f64 g) ∧ w = w') ∧ Fl.Val g (R * ((2 ^ E : Nat) : Int)) ∧ R = (Fl.sg s m + ((2 ^ (S - 1) : Nat) : Int)) / ((2 ^ S : Nat) : Int) := by
  obtain ⟨fw, dw, q, D, hf, hs, hD, hV, vf, hge, hlt, hqm⟩ := Fl.half_law x s m S 1073 E rfl hE hread hS1 hS2 hm
  by_cases hc : 2 ^ S ≤ 2 * D
  · obtain ⟨ho, gw, ha, vg⟩ := hge hc
    refine ⟨gw, Fl.sg s q + 1, fun w => zzNearest_of x gw w (nearest_ge x fw dw gw w h hf hs ho ha), vg, ?_⟩
    rw [Fl.round_eq _ _ S D hS1 hD hV, if_pos hc]
  · refine ⟨fw, Fl.sg s q, fun w => zzNearest_of x fw w (nearest_lt x fw dw w h hf hs (hlt (by omega))), vf, ?_⟩
    rw [Fl.round_eq _ _ S D hS1 hD hV, if_neg hc]

end Go.Proofs.Qxb6002620a
