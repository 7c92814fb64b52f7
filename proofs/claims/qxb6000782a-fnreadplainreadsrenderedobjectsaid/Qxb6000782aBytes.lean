/- THE WALK OF 'zzBytes': it answers, and turns nothing. -/
import Derived.Test.Qxb6000782aToken
namespace Go.Proofs.Qxb6000782a
open Go.RowKit
set_option linter.unusedVariables false
set_option linter.unusedSimpArgs false

def SomeBool (w : World) (p : Prop) (e : Ending) (w' : World) : Prop := ∃ b, e = .returned (.bool b) ∧ w = w' ∧ (b = true → p)

set_option maxRecDepth 4000 in
set_option maxHeartbeats 800000 in
theorem zzBytes_any (a1 a2 : Option Addr) (n1 c1 n2 c2 : Nat) (ks ss : List ByteArray) (a3 a4 : Option Addr) (n3 c3 n4 c4 : Nat) (w : World) (h1 : ks.length = n1) (h2 : ss.length = n2) (m1 : n1 ≤ maxLen) (m2 : n2 ≤ maxLen) (m3 : n3 ≤ maxLen) (m4 : n4 ≤ maxLen)
    (hk : HasV w a1 (ks.map Value.string)) (hs : HasV w a2 (ss.map Value.string)) (sk : ∀ s ∈ ks, s.size ≤ maxLen) (ssz : ∀ s ∈ ss, s.size ≤ maxLen) :
    Calls Try.prog 20 #[.slice a1 n1 c1, .slice a2 n2 c2, .slice a3 n3 c3, .slice a4 n4 c4] w (SomeBool w ((∀ s ∈ ks, s.size ≤ 1048576) ∧ ∀ s ∈ ss, s.size ≤ 1048576)) := by
  unfold maxLen at m1 m2 m3 m4 sk ssz
  have HK : Hid (HasV w a1 (ks.map Value.string)) := hk
  have HS : Hid (HasV w a2 (ss.map Value.string)) := hs
  have H1 : Hid (ks.length = n1) := h1
  have H2 : Hid (ss.length = n2) := h2
  have HSK : Hid (∀ s ∈ ks, s.size ≤ 2 ^ 63 - 1) := sk
  have HSS : Hid (∀ s ∈ ss, s.size ≤ 2 ^ 63 - 1) := ssz
  clear hk hs h1 h2 sk ssz
  by_cases b1 : (1048576 : Int) < n1
  · go_enter Try.func20, Try.ntmps20
    go_wp2
    go_ret
    exact ⟨_, rfl, rfl, fun h => by cases h⟩
  · go_enter Try.func20, Try.ntmps20
    go_wp2
    go_loop [9, 10] (fun x y => ∃ (t : Int) (k : Nat), 0 ≤ t ∧ t ≤ 1048576 ∧ k ≤ n1 ∧ x = .int .i64 t ∧ y = .int .i64 k ∧ Hid (∀ i s, i < k → ks[i]? = some s → s.size ≤ 1048576)) (fun _ y => n1 - (intOf y).toNat)
    case atStart => exact ⟨_, 0, by omega, by omega, by omega, rfl, rfl, fun i s hi _ => absurd hi (Nat.not_lt_zero i)⟩
    case round =>
      obtain ⟨t, k, t0, t1, hk, rfl, rfl, HBks0⟩ := hrel
      by_cases hlt : k < n1
      · obtain ⟨s, hs⟩ : ∃ s, ks[k]? = some s := ⟨_, List.getElem?_eq_getElem (by rw [H1.out]; exact hlt)⟩
        rcases HK.out with h | ⟨b, off, rfl, hc⟩
        · have : ks = [] := by simpa using h
          rw [this] at hs; simp at hs
        · have hcell : w.cell? ⟨b, off + k, none⟩ = some (.string s) := hc k _ (by rw [List.getElem?_map, hs]; rfl)
          have hsz : s.size ≤ 2 ^ 63 - 1 := HSK.out s (List.mem_of_getElem? hs)
          have HSX : Hid (ks[k]? = some s) := hs; clear hc hs
          by_cases g1 : (1048576 : Int) < s.size
          · go_wp2
            go_ret
            exact ⟨_, rfl, rfl, fun h => by cases h⟩
          · by_cases g2 : (1048576 : Int) < t + s.size
            · go_wp2
              go_ret
              exact ⟨_, rfl, rfl, fun h => by cases h⟩
            · go_wp2
              go_round
              case rel =>
                refine ⟨t + s.size, k + 1, by omega, by omega, by omega, by go_num, by go_num, fun i s' hi hs' => ?_⟩
                rcases Nat.lt_or_ge i k with h | h
                · exact HBks0.out i s' h hs'
                · have e : i = k := by omega
                  rw [e, HSX.out] at hs'
                  cases hs'
                  omega
              case measure => simp [intOf]; omega
      · have hge : (n1 : Int) ≤ (k : Int) := by omega
        have HBks : Hid (∀ s ∈ ks, s.size ≤ 1048576) := by
          intro s hs
          obtain ⟨i, hi⟩ := List.mem_iff_getElem?.1 hs
          have := (List.getElem?_eq_some_iff.1 hi).1
          exact HBks0.out i s (by rw [H1.out] at this; omega) hi
        clear HBks0
        by_cases b2 : (1048576 : Int) < n2
        · go_wp2
          go_ret
          exact ⟨_, rfl, rfl, fun h => by cases h⟩
        · by_cases b2' : (1048576 : Int) < t + n2
          · go_wp2
            go_ret
            exact ⟨_, rfl, rfl, fun h => by cases h⟩
          · go_wp2
            go_loop [9, 11] (fun x y => ∃ (t : Int) (k : Nat), 0 ≤ t ∧ t ≤ 1048576 ∧ k ≤ n2 ∧ x = .int .i64 t ∧ y = .int .i64 k ∧ Hid (∀ i s, i < k → ss[i]? = some s → s.size ≤ 1048576)) (fun _ y => n2 - (intOf y).toNat)
            case atStart => exact ⟨_, 0, by omega, by omega, by omega, rfl, rfl, fun i s hi _ => absurd hi (Nat.not_lt_zero i)⟩
            case round =>
              obtain ⟨t, k, t0, t1, hk, rfl, rfl, HBss0⟩ := hrel
              by_cases hlt : k < n2
              · obtain ⟨s, hs⟩ : ∃ s, ss[k]? = some s := ⟨_, List.getElem?_eq_getElem (by rw [H2.out]; exact hlt)⟩
                rcases HS.out with h | ⟨b, off, rfl, hc⟩
                · have : ss = [] := by simpa using h
                  rw [this] at hs; simp at hs
                · have hcell : w.cell? ⟨b, off + k, none⟩ = some (.string s) := hc k _ (by rw [List.getElem?_map, hs]; rfl)
                  have hsz : s.size ≤ 2 ^ 63 - 1 := HSS.out s (List.mem_of_getElem? hs)
                  have HSX : Hid (ss[k]? = some s) := hs; clear hc hs
                  by_cases g1 : (1048576 : Int) < s.size
                  · go_wp2
                    go_ret
                    exact ⟨_, rfl, rfl, fun h => by cases h⟩
                  · by_cases g2 : (1048576 : Int) < t + s.size
                    · go_wp2
                      go_ret
                      exact ⟨_, rfl, rfl, fun h => by cases h⟩
                    · go_wp2
                      go_round
                      case rel =>
                        refine ⟨t + s.size, k + 1, by omega, by omega, by omega, by go_num, by go_num, fun i s' hi hs' => ?_⟩
                        rcases Nat.lt_or_ge i k with h | h
                        · exact HBss0.out i s' h hs'
                        · have e : i = k := by omega
                          rw [e, HSX.out] at hs'
                          cases hs'
                          omega
                      case measure => simp [intOf]; omega
              · have hge : (n2 : Int) ≤ (k : Int) := by omega
                have HBss : Hid (∀ s ∈ ss, s.size ≤ 1048576) := by
                  intro s hs
                  obtain ⟨i, hi⟩ := List.mem_iff_getElem?.1 hs
                  have := (List.getElem?_eq_some_iff.1 hi).1
                  exact HBss0.out i s (by rw [H2.out] at this; omega) hi
                clear HBss0
                by_cases b3 : (1048576 : Int) < n3
                · go_wp2
                  go_ret
                  exact ⟨_, rfl, rfl, fun h => by cases h⟩
                · by_cases b4 : (1048576 : Int) < t + n3
                  · go_wp2
                    go_ret
                    exact ⟨_, rfl, rfl, fun h => by cases h⟩
                  · by_cases b5 : (1048576 : Int) < n4
                    · go_wp2
                      go_ret
                      exact ⟨_, rfl, rfl, fun h => by cases h⟩
                    · by_cases b6 : (1048576 : Int) < t + n3 + n4
                      · go_wp2
                        go_ret
                        exact ⟨_, rfl, rfl, fun h => by cases h⟩
                      · go_wp2
                        go_ret
                        exact ⟨_, rfl, rfl, fun _ => ⟨HBks.out, HBss.out⟩⟩

end Go.Proofs.Qxb6000782a
