/- THE WALK OF 'ZZValue': the index of the field that a key names. -/
import Derived.Test.Qxb6000782aValue
import Derived.Test.Qxb6000782aPlainEnd
namespace Go.Proofs.Qxb6000782a
open Go.RowKit
set_option linter.unusedVariables false
set_option linter.unusedSimpArgs false

def zIdx (zs : List Int) : Int := match vIdx zs with | some j => (j : Int) | none => -1

theorem vIdx_lt {zs : List Int} {m : Nat} (h : vIdx zs = some m) : m < 6 := by
  have := List.mem_of_find?_eq_some h
  simpa using this

theorem kvs_ptr (g j : Nat) (h : j < 6) : (kvs g)[j * 2 + 1]? = some (.pointer (some ⟨g, 3 * j, none⟩)) := by
  rcases (show j = 0 ∨ j = 1 ∨ j = 2 ∨ j = 3 ∨ j = 4 ∨ j = 5 by omega) with rfl | rfl | rfl | rfl | rfl | rfl
  all_goals rfl

theorem Try.info49 : (Try.prog.info? 49).map (fun i => i.size) = some 3 := by kernel_rfl

/-- '==' of two pointers into one block: as the places are. -/
theorem run_eql_ptr_block (g o o' : Nat) (w : World) : (binOp .eql 52 (.pointer (some ⟨g, o, none⟩)) (.pointer (some ⟨g, o', none⟩))).run Try.prog w = .ok (.bool (o == o')) w := by
  obtain ⟨i, hi, hs⟩ := Option.map_eq_some_iff.1 Try.info49
  have hsz : i.size ≠ 0 := by omega
  have h : ∀ d : Nat, (Op.equalIn (d + 1) 52 (.pointer (some ⟨g, o, none⟩)) (.pointer (some ⟨g, o', none⟩))).run Try.prog w = .ok (o == o') w := fun d => by
    have e : ((⟨g, o, none⟩ : Addr) == ⟨g, o', none⟩) = (o == o') := by
      rw [Bool.eq_iff_iff, beq_iff_eq, beq_iff_eq]
      simp
    simp [Op.equalIn, run_underlying Try.underlying52, sizeOf, typeInfo, hi, hsz, sameAddr, e]
  simp only [binOp]
  simp [Op.equal, Op.maxDepth, h 9999]

set_option maxHeartbeats 1000000 in
theorem zzValue_any (a : Option Addr) (n cap : Nat) (zs : List Int) (w : World) (hn : zs.length = n) (hm : n ≤ maxLen) (hb : Byt zs) (hc : Has w a zs) :
    Calls Try.prog 18 #[.slice a n cap] w fun e w' => e = .returned (.tuple #[.int .i64 (zIdx zs), .bool (vOk zs)]) ∧ Below w.heap.size w w' := by
  have hval : Hid (∀ o, Calls Try.prog 33 #[.pointer (some ⟨w.heap.size, 0, none⟩), .slice a n cap] (w.alloc o) fun e w' => e = .returned (.tuple #[vPtr w.heap.size zs, .bool (vOk zs)]) ∧ Below (w.heap.size + 1) (w.alloc o) w') := by
    intro o
    have h1 : Below w.heap.size w (w.alloc o) := (Below.refl _ _).alloc (Nat.le_refl _) _
    have := value_any w.heap.size a n cap zs (w.alloc o) hn hm hb (hc.below h1)
    simpa using this
  clear hn hm hb hc
  cases hv : vIdx zs with
  | none =>
    have e1 : vPtr w.heap.size zs = .pointer none := by simp [vPtr, hv]
    have e2 : zIdx zs = -1 := by simp [zIdx, hv]
    rw [e2]
    rw [e1] at hval
    clear e1 e2 hv
    go_enter Try.func18, Try.ntmps18
    go_wp2_with fail
    refine (hval.out _).mono ?_
    rintro e w1 ⟨rfl, hb1⟩
    have HB1 : Hid _ := hb1
    have hs1 : w.heap.size + 1 ≤ w1.heap.size := by have := hb1.size; simpa using this
    clear hb1
    go_wp2_with fail
    refine (values_any w.heap.size _).mono ?_
    rintro e w2 ⟨rfl, rfl⟩
    obtain ⟨W, hW⟩ : ∃ W, W = ((w1.alloc (.cells (kvs w.heap.size) 57)).alloc (.cells (kvs w.heap.size) 57)).drew := ⟨_, rfl⟩
    have hcells : Hid (∀ k, W.cell? ⟨w1.heap.size + 1, k, none⟩ = (kvs w.heap.size)[k]?) := by intro k; rw [hW]; simp
    have HBW : Hid (Below w.heap.size w W) := by
      rw [hW]
      exact (((((Below.refl _ _).alloc (Nat.le_refl _) _).trans (HB1.out.mono (by omega))).alloc (by omega) _).alloc (by simp; omega) _).drew
    unfold kvs
    go_wp2_with fail
    unfold kvs at hW
    rw [← hW]
    clear hW
    go_loop [8] (fun i => ∃ j : Nat, j ≤ 6 ∧ i = .int .i64 j) (fun i => 6 - (intOf i).toNat)
    case atStart => exact ⟨0, Nat.zero_le _, rfl⟩
    case round =>
      obtain ⟨j, hj, rfl⟩ := hrel
      by_cases hlt : j < 6
      · have hlt' : (j : Int) < 6 := by omega
        have hcell : W.cell? ⟨w1.heap.size + 1, j * 2 + 1, none⟩ = some (.pointer (some ⟨w.heap.size, 3 * j, none⟩)) := by rw [hcells.out, kvs_ptr _ j hlt]
        go_wp2
        go_round
        case rel => exact ⟨j + 1, by omega, by go_num⟩
        case measure => simp [intOf]; omega
      · go_wp2
        go_ret2
        exact ⟨rfl, HBW.out⟩
  | some m =>
    have e1 : vPtr w.heap.size zs = .pointer (some ⟨w.heap.size, 3 * m, none⟩) := by simp [vPtr, hv]
    have e2 : zIdx zs = (m : Int) := by simp [zIdx, hv]
    have hm6 := vIdx_lt hv
    rw [e2]
    rw [e1] at hval
    clear e1 e2 hv
    go_enter Try.func18, Try.ntmps18
    go_wp2_with fail
    refine (hval.out _).mono ?_
    rintro e w1 ⟨rfl, hb1⟩
    have HB1 : Hid _ := hb1
    have hs1 : w.heap.size + 1 ≤ w1.heap.size := by have := hb1.size; simpa using this
    clear hb1
    go_wp2_with fail
    refine (values_any w.heap.size _).mono ?_
    rintro e w2 ⟨rfl, rfl⟩
    obtain ⟨W, hW⟩ : ∃ W, W = ((w1.alloc (.cells (kvs w.heap.size) 57)).alloc (.cells (kvs w.heap.size) 57)).drew := ⟨_, rfl⟩
    have hcells : Hid (∀ k, W.cell? ⟨w1.heap.size + 1, k, none⟩ = (kvs w.heap.size)[k]?) := by intro k; rw [hW]; simp
    have HBW : Hid (Below w.heap.size w W) := by
      rw [hW]
      exact (((((Below.refl _ _).alloc (Nat.le_refl _) _).trans (HB1.out.mono (by omega))).alloc (by omega) _).alloc (by simp; omega) _).drew
    unfold kvs
    go_wp2_with fail
    unfold kvs at hW
    rw [← hW]
    clear hW
    go_loop [8] (fun i => ∃ j : Nat, j ≤ m ∧ i = .int .i64 j) (fun i => 6 - (intOf i).toNat)
    case atStart => exact ⟨0, Nat.zero_le _, rfl⟩
    case round =>
      obtain ⟨j, hj, rfl⟩ := hrel
      have hlt : j < 6 := by omega
      have hlt' : (j : Int) < 6 := by omega
      have hcell : W.cell? ⟨w1.heap.size + 1, j * 2 + 1, none⟩ = some (.pointer (some ⟨w.heap.size, 3 * j, none⟩)) := by rw [hcells.out, kvs_ptr _ j hlt]
      have heq := run_eql_ptr_block w.heap.size (3 * j) (3 * m)
      by_cases hjm : j < m
      · have hf : (3 * j == 3 * m) = false := beq_eq_false_iff_ne.2 (by omega)
        rw [hf] at heq
        clear hf
        go_wp2
        go_round
        case rel => exact ⟨j + 1, by omega, by go_num⟩
        case measure => simp [intOf]; omega
      · have hf : (3 * j == 3 * m) = true := beq_iff_eq.2 (by omega)
        have HJ : Hid (j = m) := by show _ = _; omega
        rw [hf] at heq
        clear hf
        go_wp2
        go_ret2
        exact ⟨ret_pe (by have := HJ.out; omega) rfl, HBW.out⟩

end Go.Proofs.Qxb6000782a
