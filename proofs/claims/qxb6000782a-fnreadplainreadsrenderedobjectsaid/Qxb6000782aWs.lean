/- THE WALK OF 'zzAppendWs'. -/
import Derived.Test.Qxb6000782aBuf
namespace Go.Proofs.Qxb6000782a
open Go.RowKit
set_option linter.unusedVariables false
set_option linter.unusedSimpArgs false

/-- The white space that a byte chooses. -/
def wsB (c : Int) : List Int := if c % 5 == 1 then [32] else if c % 5 == 2 then [9] else if c % 5 == 3 then [13, 10] else if c % 5 == 4 then [32, 10, 9, 13] else []
def wsAt (wz : List Int) (s : Nat) : List Int := if s < wz.length then wsB (wz.getD s 0) else []

theorem wsB_len (c : Int) : (wsB c).length ≤ 4 := by
  unfold wsB; split; simp; split; simp; split; simp; split <;> simp
theorem wsAt_len (wz : List Int) (s : Nat) : (wsAt wz s).length ≤ 4 := by
  unfold wsAt; split
  · exact wsB_len _
  · simp

theorem addr_add (b off j : Nat) : (⟨b, off, none⟩ : Addr).add j = ⟨b, off + j, none⟩ := by unfold Addr.add; split <;> simp_all

theorem lit_cells (w : World) (ys : List Int) (t : TypeId) : ∀ j, j < ys.length → (w.alloc (.cells (ys.map (Value.int .u8)).toArray t)).cell? ((⟨w.heap.size, 0, none⟩ : Addr).add j) = some (.int .u8 (ys.getD j 0)) := by
  intro j hj
  rw [addr_add, Nat.zero_add]
  simp [hj]

def AppPost (w : World) (v : Value) (zs : List Int) (e : Ending) (w' : World) : Prop := ∃ v', e = .returned v' ∧ Row w' v' zs ∧ Push w v w' v'

set_option maxHeartbeats 400000 in
theorem zzAppendWs_any (v : Value) (zs : List Int) (a1 : Option Addr) (n1 c1 s : Nat) (wz : List Int) (w : World) (hr : Row w v zs) (hz : zs.length ≤ 1099511627776) (hn : wz.length = n1) (hm : n1 ≤ maxLen) (hby : Byt wz) (hw : Has w a1 wz) (hs : s ≤ 9223372036854775807) :
    Calls Try.prog 23 #[v, .slice a1 n1 c1, .int .i64 s] w (AppPost w v (zs ++ wsAt wz s)) := by
  have HR : Hid (Row w v zs) := hr
  have HN : Hid (wz.length = n1) := hn
  unfold maxLen at hm
  by_cases hlt : s < n1
  · obtain ⟨b, off, ha, hat⟩ : ∃ b off, a1 = some ⟨b, off, none⟩ ∧ At w b off wz := by
      rcases hw with h | h
      · rw [h] at hn; simp at hn; omega
      · exact h
    subst ha
    obtain ⟨c, hc⟩ : ∃ c, c = wz.getD s 0 := ⟨_, rfl⟩
    have hcell : w.cell? ⟨b, off + s, none⟩ = some (.int .u8 c) := by rw [hc]; exact hat s (by omega)
    have hcb := hby.at s
    rw [← hc] at hcb
    obtain ⟨c0, c255⟩ := hcb
    have HW : Hid (wsAt wz s = wsB c) := by show _ = _; unfold wsAt; rw [if_pos (by rw [hn]; exact hlt), hc]
    clear hr hn hby hw hat hc
    rcases (show c % 5 = 0 ∨ c % 5 = 1 ∨ c % 5 = 2 ∨ c % 5 = 3 ∨ c % 5 = 4 by omega) with h | h | h | h | h
    · have t1 : (c % 5 == 1) = false := by simp [h]
      have t2 : (c % 5 == 2) = false := by simp [h]
      have t3 : (c % 5 == 3) = false := by simp [h]
      have t4 : (c % 5 == 4) = false := by simp [h]
      have HB : Hid (wsB c = []) := by show _ = _; simp [wsB, t1, t2, t3, t4]
      clear h
      go_enter Try.func23, Try.ntmps23
      go_wp2
      go_ret
      exact ⟨v, rfl, by rw [HW.out, HB.out, List.append_nil]; exact HR.out, Push.refl _ _⟩
    · have t1 : (c % 5 == 1) = true := by simp [h]
      have HB : Hid (wsB c = [32]) := by show _ = _; simp [wsB, t1]
      clear h
      go_enter Try.func23, Try.ntmps23
      go_wp2_with (at_builtin; refine wpList_append_mine _ rfl _ _ rfl v zs [32] rfl (HR.out.alloc _) ⟨w.heap.size, 0, none⟩ 1 1 rfl rfl (lit_cells w [32] 5) (by omega) ?_; intro v' w1 hrow hpush)
      have HP : Hid _ := hrow
      have HQ : Hid _ := hpush
      clear hrow hpush
      go_wp2
      go_ret
      exact ⟨v', rfl, by rw [HW.out, HB.out]; exact HP.out, HQ.out.alloc _⟩
    · have t1 : (c % 5 == 1) = false := by simp [h]
      have t2 : (c % 5 == 2) = true := by simp [h]
      have HB : Hid (wsB c = [9]) := by show _ = _; simp [wsB, t1, t2]
      clear h
      go_enter Try.func23, Try.ntmps23
      go_wp2_with (at_builtin; refine wpList_append_mine _ rfl _ _ rfl v zs [9] rfl (HR.out.alloc _) ⟨w.heap.size, 0, none⟩ 1 1 rfl rfl (lit_cells w [9] 5) (by omega) ?_; intro v' w1 hrow hpush)
      have HP : Hid _ := hrow
      have HQ : Hid _ := hpush
      clear hrow hpush
      go_wp2
      go_ret
      exact ⟨v', rfl, by rw [HW.out, HB.out]; exact HP.out, HQ.out.alloc _⟩
    · have t1 : (c % 5 == 1) = false := by simp [h]
      have t2 : (c % 5 == 2) = false := by simp [h]
      have t3 : (c % 5 == 3) = true := by simp [h]
      have HB : Hid (wsB c = [13, 10]) := by show _ = _; simp [wsB, t1, t2, t3]
      clear h
      go_enter Try.func23, Try.ntmps23
      go_wp2_with (at_builtin; refine wpList_append_mine _ rfl _ _ rfl v zs [13, 10] rfl (HR.out.alloc _) ⟨w.heap.size, 0, none⟩ 2 2 rfl rfl (lit_cells w [13, 10] 5) (by omega) ?_; intro v' w1 hrow hpush)
      have HP : Hid _ := hrow
      have HQ : Hid _ := hpush
      clear hrow hpush
      go_wp2
      go_ret
      exact ⟨v', rfl, by rw [HW.out, HB.out]; exact HP.out, HQ.out.alloc _⟩
    · have t1 : (c % 5 == 1) = false := by simp [h]
      have t2 : (c % 5 == 2) = false := by simp [h]
      have t3 : (c % 5 == 3) = false := by simp [h]
      have t4 : (c % 5 == 4) = true := by simp [h]
      have HB : Hid (wsB c = [32, 10, 9, 13]) := by show _ = _; simp [wsB, t1, t2, t3, t4]
      clear h
      go_enter Try.func23, Try.ntmps23
      go_wp2_with (at_builtin; refine wpList_append_mine _ rfl _ _ rfl v zs [32, 10, 9, 13] rfl (HR.out.alloc _) ⟨w.heap.size, 0, none⟩ 4 4 rfl rfl (lit_cells w [32, 10, 9, 13] 5) (by omega) ?_; intro v' w1 hrow hpush)
      have HP : Hid _ := hrow
      have HQ : Hid _ := hpush
      clear hrow hpush
      go_wp2
      go_ret
      exact ⟨v', rfl, by rw [HW.out, HB.out]; exact HP.out, HQ.out.alloc _⟩
  · have HW : Hid (wsAt wz s = []) := by show _ = _; unfold wsAt; rw [if_neg (by rw [hn]; exact hlt)]
    have hge : (n1 : Int) ≤ (s : Int) := by omega
    clear hr hn hby hw
    go_enter Try.func23, Try.ntmps23
    go_wp2
    go_ret
    exact ⟨v, rfl, by rw [HW.out, List.append_nil]; exact HR.out, Push.refl _ _⟩

end Go.Proofs.Qxb6000782a
