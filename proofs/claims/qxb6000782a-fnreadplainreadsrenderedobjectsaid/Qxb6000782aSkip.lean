/- THE WALKS OF 'skipSpace', 'reset', 'set'. -/
import Derived.Test.Qxb6000782aToken
namespace Go.Proofs.Qxb6000782a
open Go.RowKit
set_option linter.unusedVariables false
set_option linter.unusedSimpArgs false

def sp (c : Int) : Bool := c == 32 || c == 9 || c == 13 || c == 10

theorem sp_yes {c : Int} (h : sp c = true) : c = 32 ∨ c = 9 ∨ c = 13 ∨ c = 10 := by
  unfold sp at h; simpa [or_assoc] using h

theorem sp_no {c : Int} (h : sp c = false) : (c == 32) = false ∧ (c == 9) = false ∧ (c == 13) = false ∧ (c == 10) = false := by
  unfold sp at h; simpa [and_assoc] using h

set_option maxHeartbeats 400000 in
theorem skipSpace_any (b off n cap i : Nat) (ws r : List Int) (w : World) (hn : i + (ws.length + r.length) = n) (hm : n ≤ maxLen) (hc : At w b (off + i) (ws ++ r)) (hs : ∀ c ∈ ws, sp c = true) (hr : r = [] ∨ ∃ c r', r = c :: r' ∧ sp c = false) :
    Calls Try.prog 46 #[.slice (some ⟨b, off, none⟩) n cap, .int .i64 i] w fun e w' => e = .returned (.int .i64 ((i + ws.length : Nat) : Int)) ∧ w = w' := by
  unfold maxLen at hm
  have HC : Hid (At w b (off + i) (ws ++ r)) := hc
  have HS : Hid (∀ c ∈ ws, sp c = true) := hs
  have HR : Hid (r = [] ∨ ∃ c r', r = c :: r' ∧ sp c = false) := hr
  clear hc hs hr
  go_enter Try.func46, Try.ntmps46
  go_wp2
  go_loop [1] (fun x => ∃ k : Nat, k ≤ ws.length ∧ x = .int .i64 ((i + k : Nat) : Int)) (fun x => n - (intOf x).toNat)
  case atStart => exact ⟨0, Nat.zero_le _, rfl⟩
  case round =>
    obtain ⟨k, hk, rfl⟩ := hrel
    by_cases hlt : k < ws.length
    · obtain ⟨c, hc⟩ : ∃ c, c = (ws ++ r).getD k 0 := ⟨_, rfl⟩
      have hcell : w.cell? ⟨b, off + (i + k), none⟩ = some (.int .u8 c) := by
        have := HC.out k (by simp; omega)
        rw [hc, ← this, Nat.add_assoc]
      have hsp : sp c = true := by
        apply HS.out
        rw [hc, List.getD_eq_getElem?_getD, List.getElem?_append_left hlt, List.getElem?_eq_getElem hlt]
        exact List.getElem_mem hlt
      clear hc
      rcases sp_yes hsp with rfl | rfl | rfl | rfl
      all_goals
        clear hsp
        go_wp2
        go_round
        case rel => exact ⟨k + 1, by omega, by go_num⟩
        case measure => simp [intOf]; omega
    · have hk' : k = ws.length := by omega
      subst hk'
      clear hlt
      rcases HR.out with rfl | ⟨c, r', rfl, hsp⟩
      · have hge : (n : Int) ≤ ((i + ws.length : Nat) : Int) := by simp at hn; omega
        go_wp2
        go_ret
        exact ⟨rfl, rfl⟩
      · have hcell : w.cell? ⟨b, off + (i + ws.length), none⟩ = some (.int .u8 c) := by
          have := HC.out ws.length (by simp)
          rw [List.getD_eq_getElem?_getD, List.getElem?_append_right (Nat.le_refl _), Nat.sub_self] at this
          rw [← Nat.add_assoc, this]; rfl
        obtain ⟨t1, t2, t3, t4⟩ := sp_no hsp
        rw [List.length_cons] at hn
        clear hsp
        go_wp2
        go_ret
        exact ⟨rfl, rfl⟩

end Go.Proofs.Qxb6000782a
