/- THE WALK OF 'zzClone': a new row with the same bytes. -/
import Derived.Test.Qxb6000782aScan
import Derived.WalkSpells
namespace Go.Proofs.Qxb6000782a
open Go.RowKit
set_option linter.unusedVariables false

theorem Try.info5 : (Try.prog.info? 5).map (fun i => (i.zero, i.size, i.bytes)) = some (some (.int .u8 0), 1, 1) := by kernel_rfl

theorem row_step {α : Type} (V : α → Value) (z : Value) (zs : List α) (n k : Nat) (d : α) (hn : zs.length = n) (hk : k < n) (hd : zs[k]? = some d) :
    ((zs.take k).map V ++ List.replicate (n - k) z).set k (V d) = (zs.take (k + 1)).map V ++ List.replicate (n - (k + 1)) z := by
  have hl : ((zs.take k).map V).length = k := by simp; omega
  rw [List.set_append_right _ _ (by omega), hl, Nat.sub_self]
  obtain ⟨m, hm⟩ : ∃ m, n - k = m + 1 := ⟨n - k - 1, by omega⟩
  rw [hm, List.replicate_succ, List.set_cons_zero, show n - (k + 1) = m from by omega]
  rw [List.take_add_one, hd]
  simp

theorem zzClone_nil (w : World) :
    Calls Try.prog 10 #[.slice none 0 0] w fun e w' => e = .returned (.slice none 0 0) ∧ w = w' := by
  have q22 : ∀ (w : World) (a : Option Addr) (n c : Nat), (binOp .eql 22 (.slice a n c) (.slice none 0 0)).run Try.prog w = .ok (.bool a.isNone) w := fun w a n c => Lib.run_eql_slice_nil w 22 5 a n c 0 0 Try.underlying22
  go_enter Try.func10, Try.ntmps10
  go_wp2
  go_ret
  exact ⟨rfl, rfl⟩

/-- The row that a call has made. -/
abbrev newRow (w : World) (n : Nat) : Value := .slice (some ⟨w.heap.size, 0, none⟩) n n

theorem zzClone_empty (x : Addr) (cap : Nat) (w : World) :
    Calls Try.prog 10 #[.slice (some x) 0 cap] w fun e w' => e = .returned (newRow w 0) ∧ w'.ownsRow w.heap.size 5 1 (newRow w 0) 0 [] ∧ Below w.heap.size w w' := by
  have q22 : ∀ (w : World) (a : Option Addr) (n c : Nat), (binOp .eql 22 (.slice a n c) (.slice none 0 0)).run Try.prog w = .ok (.bool a.isNone) w := fun w a n c => Lib.run_eql_slice_nil w 22 5 a n c 0 0 Try.underlying22
  obtain ⟨i0, hi, hz0, hz1, hz2⟩ := info_parts Try.info5
  go_enter Try.func10, Try.ntmps10
  go_wp2_with (at_make; refine wpList_make_full _ rfl _ _ 22 rfl w.heap.size 5 i0 (.int .u8 0) 1 Try.underlying22 hi hz0 hz1 .i64 .i64 _ _ 0 rfl rfl rfl rfl (by simp) (by simp) (Nat.le_refl _) ?_; intro w1 hown hgrow)
  have hb : Below w.heap.size w w1 := (Below.refl _ _).grown hgrow (Nat.le_refl _) (by simp)
  have hown' : w1.ownsRow w.heap.size 5 1 (newRow w 0) 0 [] := by simpa [madeCells] using hown
  clear hown hgrow
  refine wp_loop_rounds 1 ?_
  rw [rounds_succ]
  go_wp2
  go_ret
  exact ⟨rfl, hown', hb⟩

set_option maxHeartbeats 400000 in
theorem zzClone_some (b off n cap : Nat) (zs : List Int) (w : World) (hn : zs.length = n) (hp : 0 < n) (hm : n ≤ 281474976710656) (hc : At w b off zs) :
    Calls Try.prog 10 #[.slice (some ⟨b, off, none⟩) n cap] w fun e w' => e = .returned (newRow w n) ∧ w'.ownsRow w.heap.size 5 1 (newRow w n) n (zs.map (Value.int .u8)) ∧ Below w.heap.size w w' := by
  have q22 : ∀ (w : World) (a : Option Addr) (n c : Nat), (binOp .eql 22 (.slice a n c) (.slice none 0 0)).run Try.prog w = .ok (.bool a.isNone) w := fun w a n c => Lib.run_eql_slice_nil w 22 5 a n c 0 0 Try.underlying22
  obtain ⟨i0, hi, hz0, hz1, hz2⟩ := info_parts Try.info5
  have HC : Hid (At w b off zs) := hc
  have HN : Hid (zs.length = n) := hn
  have hbB : b < w.heap.size := World.block_lt_of_cell? _ _ (hc 0 (by omega))
  clear hc hn
  have hnew : Hid (∀ w1 : World, w.grownBy w1 none → Below w.heap.size w w1) := fun w1 h => (Below.refl _ _).grown h (Nat.le_refl _) (by simp)
  go_enter Try.func10, Try.ntmps10
  go_wp2_with (at_make; refine wpList_make_full _ rfl _ _ 22 rfl w.heap.size 5 i0 (.int .u8 0) 1 Try.underlying22 hi hz0 hz1 .i64 .i64 _ _ n rfl rfl rfl rfl (by rw [hz2]; omega) (by unfold maxLen; omega) (Nat.le_refl _) ?_; intro w1 hown hgrow)
  have hb := hnew.out w1 hgrow
  have hown' : w1.ownsRow w.heap.size 5 1 (newRow w n) n (((zs.take 0).map (Value.int .u8)) ++ List.replicate (n - 0) (.int .u8 0)) := by
    have e : (madeCells (Value.int .u8 0).cells (n * 1)).toList = List.replicate n (.int .u8 0) := by rw [Nat.mul_one]; exact toList_madeCells_one _ _
    rw [e] at hown
    simpa using hown
  clear hown hgrow hnew hi hz0 hz1 hz2
  go_loopw [4] (fun i wr => ∃ k : Nat, k ≤ n ∧ i = .int .i64 k ∧ wr.ownsRow w.heap.size 5 1 (newRow w n) n (((zs.take k).map (Value.int .u8)) ++ List.replicate (n - k) (.int .u8 0)) ∧ Below w.heap.size w wr) (fun i _ => n - (intOf i).toNat)
  case atStart => exact ⟨0, Nat.zero_le _, rfl, hown', hb⟩
  case round =>
    obtain ⟨k, hk, rfl, ho, hbr⟩ := hrel
    clear hown' hb
    have HO := ho
    by_cases hlt : k < n
    · obtain ⟨d, hd⟩ : ∃ d, d = zs.getD k 0 := ⟨_, rfl⟩
      have hd2 : zs[k]? = some d := by
        rw [hd, List.getD_eq_getElem?_getD, List.getElem?_eq_getElem (by rw [HN.out]; exact hlt)]; simp
      have hcell : wr.cell? ⟨b, off + k, none⟩ = some (.int .u8 d) := by
        rw [hbr.cell (by exact hbB), hd]; exact HC.out k (by rw [HN.out]; exact hlt)
      obtain ⟨o, hold⟩ : ∃ o, wr.cell? ⟨w.heap.size, k, none⟩ = some o := by
        have := ho.cellAt k (by omega)
        rw [this]
        have hl : k < (((zs.take k).map (Value.int .u8)) ++ List.replicate (n - k) (Value.int .u8 0)).length := by rw [ho.1]; omega
        exact ⟨_, List.getElem?_eq_getElem hl⟩
      have hfr := ho.frozenAt k
      have hst := (ho.stored k (.int .u8 d))
      rw [row_step (Value.int .u8) (.int .u8 0) zs n k d HN.out hlt hd2] at hst
      have R : Hid ((wr.setCell ⟨w.heap.size, k, none⟩ (.int .u8 d)).ownsRow w.heap.size 5 1 (newRow w n) n (((zs.take (k + 1)).map (Value.int .u8)) ++ List.replicate (n - (k + 1)) (.int .u8 0)) ∧ Below w.heap.size w (wr.setCell ⟨w.heap.size, k, none⟩ (.int .u8 d))) :=
        ⟨hst.1, hbr.setCell (Nat.le_refl _) _⟩
      clear hst ho HO hbr hd hd2
      go_wp2
      go_roundw
      case rel => exact ⟨k + 1, by omega, by go_num, R.out.1, R.out.2⟩
      case measure => simp [intOf]; omega
    · have e : ((zs.take k).map (Value.int .u8)) ++ List.replicate (n - k) (Value.int .u8 0) = zs.map (Value.int .u8) := by
        rw [List.take_of_length_le (by rw [HN.out]; omega), show n - k = 0 from by omega]; simp
      have R : Hid (wr.ownsRow w.heap.size 5 1 (newRow w n) n (zs.map (Value.int .u8)) ∧ Below w.heap.size w wr) := ⟨by rw [← e]; exact ho, hbr⟩
      clear HO ho hbr e
      go_wp2
      go_ret
      exact ⟨rfl, R.out.1, R.out.2⟩

end Go.Proofs.Qxb6000782a
