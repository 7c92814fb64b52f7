/- THE WALK OF 'reset', on a new event line. -/
import Derived.Test.Qxb6000782aLine
namespace Go.Proofs.Qxb6000782a
open Go.RowKit
set_option linter.unusedVariables false
set_option linter.unusedSimpArgs false

def vals0 (k : Nat) : Value := if k % 3 = 0 then .slice none 0 0 else .bool false

theorem upd_same (vals : Nat → Value) (k : Nat) (v : Value) (h : vals k = v) : upd vals k v = vals := by
  funext j
  unfold upd
  split
  · rename_i e; rw [e, h]
  · rfl

theorem drew_blk {w : World} {g : Nat} {vals : Nat → Value} (h : Blk w g vals) : Blk w.drew g vals := h

set_option maxHeartbeats 800000 in
theorem reset_new (g : Nat) (w : World) (hB : Blk w g vals0) :
    Calls Try.prog 45 #[.pointer (some ⟨g, 0, none⟩)] w fun e w' => e = .returned (.tuple #[]) ∧ Blk w' g vals0 ∧ Below g w w' := by
  have HB0 : Hid (Blk w g vals0) := hB
  clear hB
  go_enter Try.func45, Try.ntmps45
  go_wp2_with fail
  refine (values_any g w).mono ?_
  rintro e w1 ⟨rfl, rfl⟩
  obtain ⟨w1, hw1⟩ : ∃ w1, w1 = (w.alloc (.cells (kvs g) 57)).drew := ⟨_, rfl⟩
  have HB1 : Hid (Blk w1 g vals0 ∧ Below g w w1) := by
    rw [hw1]
    have hl := HB0.out.lt
    exact ⟨drew_blk (HB0.out.keep (Below.heap_alloc _ _ _ hl)), ((Below.refl _ _).alloc (by omega) _).drew⟩
  rw [← hw1]
  clear hw1
  go_wp2
  go_loopw [6] (fun i wr => ∃ k : Nat, k ≤ 6 ∧ i = .int .i64 k ∧ Hid (Blk wr g vals0 ∧ Below g w wr)) (fun i _ => 6 - (intOf i).toNat)
  case atStart => exact ⟨0, by omega, rfl, HB1.out⟩
  case round =>
    obtain ⟨k, hk, rfl, HB⟩ := hrel
    by_cases hlt : k < 6
    · have hix := kvs_at g k hlt
      have hlt' : (k : Int) < 6 := by omega
      obtain ⟨W, hW⟩ : ∃ W, W = wr.alloc (.cells #[.string (nm k), .pointer (some ⟨g, 3 * k, none⟩)] 56) := ⟨_, rfl⟩
      have hg := HB.out.1.lt
      have HBW : Hid (Blk W g vals0 ∧ Below g w W) := by rw [hW]; exact ⟨HB.out.1.keep (Below.heap_alloc _ _ _ hg), HB.out.2.alloc (by omega) _⟩
      have hp0 : W.cell? ⟨wr.heap.size, 0, none⟩ = some (.string (nm k)) := by rw [hW]; simp
      have hp1 : W.cell? ⟨wr.heap.size, 1, none⟩ = some (.pointer (some ⟨g, 3 * k, none⟩)) := by rw [hW]; simp
      have hq1 : W.cell? ⟨g, 3 * k + 1, none⟩ = some (vals0 (3 * k + 1)) := HBW.out.1.cell _ (by omega)
      have hq2 : W.cell? ⟨g, 3 * k + 2, none⟩ = some (vals0 (3 * k + 2)) := HBW.out.1.cell _ (by omega)
      have hf1 := HBW.out.1.frozen (3 * k + 1)
      have hf2 := HBW.out.1.frozen (3 * k + 2)
      have hne : ¬ g = wr.heap.size := by omega
      have hne2 : ¬ wr.heap.size = g := by omega
      go_wp2
      rw [← hW]
      clear hW
      go_region
      have HF : Hid (Blk (((W.setCell ⟨g, 3 * k + 1, none⟩ (.bool false)).setCell ⟨g, 3 * k + 2, none⟩ (.bool false)).drew) g vals0 ∧ Below g w (((W.setCell ⟨g, 3 * k + 1, none⟩ (.bool false)).setCell ⟨g, 3 * k + 2, none⟩ (.bool false)).drew)) := by
        refine ⟨drew_blk ?_, ((HBW.out.2.setCell (Nat.le_refl _) _).setCell (Nat.le_refl _) _).drew⟩
        have := (HBW.out.1.store (3 * k + 1) (.bool false)).store (3 * k + 2) (.bool false)
        rw [upd_same vals0 (3 * k + 1) _ (by unfold vals0; rw [if_neg (by omega)]), upd_same vals0 (3 * k + 2) _ (by unfold vals0; rw [if_neg (by omega)])] at this
        exact this
      go_wp2
      go_roundw
      case rel => exact ⟨k + 1, by omega, by go_num, HF.out⟩
      case measure => simp [intOf]; omega
    · have hge : (6 : Int) ≤ (k : Int) := by omega
      go_wp2
      exact bodyPost_end (v := .tuple #[]) (by simp [results, Try.f45, go_sem]) rfl ⟨rfl, HB.out⟩

end Go.Proofs.Qxb6000782a
