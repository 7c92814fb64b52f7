/- THE WALKS OF 'zzCloneStrings', 'zzCloneUints'. -/
import Derived.Test.Qxb6000782aToken
namespace Go.Proofs.Qxb6000782a
open Go.RowKit
set_option linter.unusedVariables false
set_option linter.unusedSimpArgs false

theorem Try.info9 : (Try.prog.info? 9).map (fun i => (i.zero, i.size, i.bytes)) = some (some (Value.string ByteArray.empty), 1, 16) := by kernel_rfl

theorem zzCloneStrings_nil (w : World) :
    Calls Try.prog 21 #[.slice none 0 0] w fun e w' => e = .returned (.slice none 0 0) ∧ w = w' := by
  have q22 : ∀ (w : World) (a : Option Addr) (n c : Nat), (binOp .eql 33 (.slice a n c) (.slice none 0 0)).run Try.prog w = .ok (.bool a.isNone) w := fun w a n c => Lib.run_eql_slice_nil w 33 9 a n c 0 0 Try.underlying33
  go_enter Try.func21, Try.ntmps21
  go_wp2
  go_ret
  exact ⟨rfl, rfl⟩

theorem zzCloneStrings_empty (x : Addr) (cap : Nat) (w : World) :
    Calls Try.prog 21 #[.slice (some x) 0 cap] w fun e w' => e = .returned (newRow w 0) ∧ Below w.heap.size w w' := by
  have q22 : ∀ (w : World) (a : Option Addr) (n c : Nat), (binOp .eql 33 (.slice a n c) (.slice none 0 0)).run Try.prog w = .ok (.bool a.isNone) w := fun w a n c => Lib.run_eql_slice_nil w 33 9 a n c 0 0 Try.underlying33
  obtain ⟨i0, hi, hz0, hz1, hz2⟩ := info_parts Try.info9
  go_enter Try.func21, Try.ntmps21
  go_wp2_with (at_make; refine wpList_make_full _ rfl _ _ 33 rfl w.heap.size 9 i0 (Value.string ByteArray.empty) 1 Try.underlying33 hi hz0 hz1 .i64 .i64 _ _ 0 rfl rfl rfl rfl (by simp) (by simp) (Nat.le_refl _) ?_; intro w1 hown hgrow)
  have hb : Below w.heap.size w w1 := (Below.refl _ _).grown hgrow (Nat.le_refl _) (by simp)
  clear hown hgrow
  refine wp_loop_rounds 1 ?_
  rw [rounds_succ]
  go_wp2
  go_ret
  exact ⟨rfl, hb⟩

set_option maxHeartbeats 400000 in
theorem zzCloneStrings_some (b off n cap : Nat) (zs : List ByteArray) (w : World) (hn : zs.length = n) (hp : 0 < n) (hm : n ≤ 65536) (hc : ∀ j v, (zs.map (Value.string))[j]? = some v → w.cell? ⟨b, off + j, none⟩ = some v) :
    Calls Try.prog 21 #[.slice (some ⟨b, off, none⟩) n cap] w fun e w' => e = .returned (newRow w n) ∧ w'.ownsRow w.heap.size 9 1 (newRow w n) n (zs.map (Value.string)) ∧ Below w.heap.size w w' := by
  have q22 : ∀ (w : World) (a : Option Addr) (n c : Nat), (binOp .eql 33 (.slice a n c) (.slice none 0 0)).run Try.prog w = .ok (.bool a.isNone) w := fun w a n c => Lib.run_eql_slice_nil w 33 9 a n c 0 0 Try.underlying33
  obtain ⟨i0, hi, hz0, hz1, hz2⟩ := info_parts Try.info9
  have HC : Hid (∀ j v, (zs.map (Value.string))[j]? = some v → w.cell? ⟨b, off + j, none⟩ = some v) := hc
  have HN : Hid (zs.length = n) := hn
  have hbB : b < w.heap.size := World.block_lt_of_cell? _ _ (hc 0 _ (List.getElem?_eq_getElem (by simp; omega)))
  clear hc hn
  have hnew : Hid (∀ w1 : World, w.grownBy w1 none → Below w.heap.size w w1) := fun w1 h => (Below.refl _ _).grown h (Nat.le_refl _) (by simp)
  go_enter Try.func21, Try.ntmps21
  go_wp2_with (at_make; refine wpList_make_full _ rfl _ _ 33 rfl w.heap.size 9 i0 (Value.string ByteArray.empty) 1 Try.underlying33 hi hz0 hz1 .i64 .i64 _ _ n rfl rfl rfl rfl (by rw [hz2]; omega) (by unfold maxLen; omega) (Nat.le_refl _) ?_; intro w1 hown hgrow)
  have hb := hnew.out w1 hgrow
  have hown' : w1.ownsRow w.heap.size 9 1 (newRow w n) n (((zs.take 0).map (Value.string)) ++ List.replicate (n - 0) (Value.string ByteArray.empty)) := by
    have e : (madeCells ((Value.string ByteArray.empty) : Value).cells (n * 1)).toList = List.replicate n (Value.string ByteArray.empty) := by rw [Nat.mul_one]; exact toList_madeCells_one _ _
    rw [e] at hown
    simpa using hown
  clear hown hgrow hnew hi hz0 hz1 hz2
  go_loopw [4] (fun i wr => ∃ k : Nat, k ≤ n ∧ i = .int .i64 k ∧ wr.ownsRow w.heap.size 9 1 (newRow w n) n (((zs.take k).map (Value.string)) ++ List.replicate (n - k) (Value.string ByteArray.empty)) ∧ Below w.heap.size w wr) (fun i _ => n - (intOf i).toNat)
  case atStart => exact ⟨0, Nat.zero_le _, rfl, hown', hb⟩
  case round =>
    obtain ⟨k, hk, rfl, ho, hbr⟩ := hrel
    clear hown' hb
    have HO := ho
    by_cases hlt : k < n
    · obtain ⟨d, hd2⟩ : ∃ d, zs[k]? = some d := ⟨_, List.getElem?_eq_getElem (by rw [HN.out]; exact hlt)⟩
      have hcell : wr.cell? ⟨b, off + k, none⟩ = some (.string d) := by
        rw [hbr.cell (by exact hbB)]; exact HC.out k _ (by rw [List.getElem?_map, hd2]; rfl)
      obtain ⟨o, hold⟩ : ∃ o, wr.cell? ⟨w.heap.size, k, none⟩ = some o := by
        have := ho.cellAt k (by omega)
        rw [this]
        have hl : k < (((zs.take k).map (Value.string)) ++ List.replicate (n - k) (Value.string ByteArray.empty)).length := by rw [ho.1]; omega
        exact ⟨_, List.getElem?_eq_getElem hl⟩
      have hfr := ho.frozenAt k
      have hst := (ho.stored k (.string d))
      rw [row_step (Value.string) (Value.string ByteArray.empty) zs n k d HN.out hlt hd2] at hst
      have R : Hid ((wr.setCell ⟨w.heap.size, k, none⟩ (.string d)).ownsRow w.heap.size 9 1 (newRow w n) n (((zs.take (k + 1)).map (Value.string)) ++ List.replicate (n - (k + 1)) (Value.string ByteArray.empty)) ∧ Below w.heap.size w (wr.setCell ⟨w.heap.size, k, none⟩ (.string d))) :=
        ⟨hst.1, hbr.setCell (Nat.le_refl _) _⟩
      clear hst ho HO hbr hd2
      go_wp2
      go_roundw
      case rel => exact ⟨k + 1, by omega, by go_num, R.out.1, R.out.2⟩
      case measure => simp [intOf]; omega
    · have e : ((zs.take k).map (Value.string)) ++ List.replicate (n - k) (Value.string ByteArray.empty) = zs.map (Value.string) := by
        rw [List.take_of_length_le (by rw [HN.out]; omega), show n - k = 0 from by omega]; simp
      have R : Hid (wr.ownsRow w.heap.size 9 1 (newRow w n) n (zs.map (Value.string)) ∧ Below w.heap.size w wr) := ⟨by rw [← e]; exact ho, hbr⟩
      clear HO ho hbr e
      go_wp2
      go_ret
      exact ⟨rfl, R.out.1, R.out.2⟩

theorem zzCloneStrings_has (a : Option Addr) (n cap : Nat) (zs : List ByteArray) (w : World) (hn : zs.length = n) (hm : n ≤ 65536) (hnil : a = none → cap = 0) (hc : HasV w a (zs.map (Value.string))) :
    Calls Try.prog 21 #[.slice a n cap] w fun e w' => ∃ a' c', e = .returned (.slice a' n c') ∧ HasV w' a' (zs.map (Value.string)) ∧ Below w.heap.size w w' := by
  by_cases h0 : n = 0
  · subst h0
    have hz : zs = [] := List.length_eq_zero_iff.1 hn
    cases a with
    | none =>
      rw [hnil rfl]
      refine (zzCloneStrings_nil w).mono ?_
      rintro e w' ⟨rfl, rfl⟩
      exact ⟨none, 0, rfl, .inl (by rw [hz]; rfl), Below.refl _ _⟩
    | some x =>
      refine (zzCloneStrings_empty x cap w).mono ?_
      rintro e w' ⟨rfl, hb⟩
      exact ⟨_, _, rfl, .inl (by rw [hz]; rfl), hb⟩
  · rcases hc with h | ⟨b, off, rfl, hc⟩
    · have : zs = [] := by simpa using h
      rw [this] at hn; simp at hn; omega
    · refine (zzCloneStrings_some b off n cap zs w hn (by omega) hm hc).mono ?_
      rintro e w' ⟨rfl, ho, hb⟩
      refine ⟨_, _, rfl, .inr ⟨w.heap.size, 0, rfl, fun j v hj => ?_⟩, hb⟩
      have hlt : j < n := by
        have := (List.getElem?_eq_some_iff.1 hj).1
        rw [List.length_map] at this; omega
      rw [Nat.zero_add, ho.cellAt j (by omega)]
      exact hj

theorem Try.info59 : (Try.prog.info? 59).map (fun i => (i.zero, i.size, i.bytes)) = some (some (Value.int .u64 0), 1, 8) := by kernel_rfl

theorem zzCloneUints_nil (w : World) :
    Calls Try.prog 22 #[.slice none 0 0] w fun e w' => e = .returned (.slice none 0 0) ∧ w = w' := by
  have q22 : ∀ (w : World) (a : Option Addr) (n c : Nat), (binOp .eql 34 (.slice a n c) (.slice none 0 0)).run Try.prog w = .ok (.bool a.isNone) w := fun w a n c => Lib.run_eql_slice_nil w 34 59 a n c 0 0 Try.underlying34
  go_enter Try.func22, Try.ntmps22
  go_wp2
  go_ret
  exact ⟨rfl, rfl⟩

theorem zzCloneUints_empty (x : Addr) (cap : Nat) (w : World) :
    Calls Try.prog 22 #[.slice (some x) 0 cap] w fun e w' => e = .returned (newRow w 0) ∧ Below w.heap.size w w' := by
  have q22 : ∀ (w : World) (a : Option Addr) (n c : Nat), (binOp .eql 34 (.slice a n c) (.slice none 0 0)).run Try.prog w = .ok (.bool a.isNone) w := fun w a n c => Lib.run_eql_slice_nil w 34 59 a n c 0 0 Try.underlying34
  obtain ⟨i0, hi, hz0, hz1, hz2⟩ := info_parts Try.info59
  go_enter Try.func22, Try.ntmps22
  go_wp2_with (at_make; refine wpList_make_full _ rfl _ _ 34 rfl w.heap.size 59 i0 (Value.int .u64 0) 1 Try.underlying34 hi hz0 hz1 .i64 .i64 _ _ 0 rfl rfl rfl rfl (by simp) (by simp) (Nat.le_refl _) ?_; intro w1 hown hgrow)
  have hb : Below w.heap.size w w1 := (Below.refl _ _).grown hgrow (Nat.le_refl _) (by simp)
  clear hown hgrow
  refine wp_loop_rounds 1 ?_
  rw [rounds_succ]
  go_wp2
  go_ret
  exact ⟨rfl, hb⟩

set_option maxHeartbeats 400000 in
theorem zzCloneUints_some (b off n cap : Nat) (zs : List Nat) (w : World) (hn : zs.length = n) (hp : 0 < n) (hm : n ≤ 65536) (hc : ∀ j v, (zs.map (fun u : Nat => Value.int .u64 (u : Int)))[j]? = some v → w.cell? ⟨b, off + j, none⟩ = some v) :
    Calls Try.prog 22 #[.slice (some ⟨b, off, none⟩) n cap] w fun e w' => e = .returned (newRow w n) ∧ w'.ownsRow w.heap.size 59 1 (newRow w n) n (zs.map (fun u : Nat => Value.int .u64 (u : Int))) ∧ Below w.heap.size w w' := by
  have q22 : ∀ (w : World) (a : Option Addr) (n c : Nat), (binOp .eql 34 (.slice a n c) (.slice none 0 0)).run Try.prog w = .ok (.bool a.isNone) w := fun w a n c => Lib.run_eql_slice_nil w 34 59 a n c 0 0 Try.underlying34
  obtain ⟨i0, hi, hz0, hz1, hz2⟩ := info_parts Try.info59
  have HC : Hid (∀ j v, (zs.map (fun u : Nat => Value.int .u64 (u : Int)))[j]? = some v → w.cell? ⟨b, off + j, none⟩ = some v) := hc
  have HN : Hid (zs.length = n) := hn
  have hbB : b < w.heap.size := World.block_lt_of_cell? _ _ (hc 0 _ (List.getElem?_eq_getElem (by simp; omega)))
  clear hc hn
  have hnew : Hid (∀ w1 : World, w.grownBy w1 none → Below w.heap.size w w1) := fun w1 h => (Below.refl _ _).grown h (Nat.le_refl _) (by simp)
  go_enter Try.func22, Try.ntmps22
  go_wp2_with (at_make; refine wpList_make_full _ rfl _ _ 34 rfl w.heap.size 59 i0 (Value.int .u64 0) 1 Try.underlying34 hi hz0 hz1 .i64 .i64 _ _ n rfl rfl rfl rfl (by rw [hz2]; omega) (by unfold maxLen; omega) (Nat.le_refl _) ?_; intro w1 hown hgrow)
  have hb := hnew.out w1 hgrow
  have hown' : w1.ownsRow w.heap.size 59 1 (newRow w n) n (((zs.take 0).map (fun u : Nat => Value.int .u64 (u : Int))) ++ List.replicate (n - 0) (Value.int .u64 0)) := by
    have e : (madeCells ((Value.int .u64 0) : Value).cells (n * 1)).toList = List.replicate n (Value.int .u64 0) := by rw [Nat.mul_one]; exact toList_madeCells_one _ _
    rw [e] at hown
    simpa using hown
  clear hown hgrow hnew hi hz0 hz1 hz2
  go_loopw [4] (fun i wr => ∃ k : Nat, k ≤ n ∧ i = .int .i64 k ∧ wr.ownsRow w.heap.size 59 1 (newRow w n) n (((zs.take k).map (fun u : Nat => Value.int .u64 (u : Int))) ++ List.replicate (n - k) (Value.int .u64 0)) ∧ Below w.heap.size w wr) (fun i _ => n - (intOf i).toNat)
  case atStart => exact ⟨0, Nat.zero_le _, rfl, hown', hb⟩
  case round =>
    obtain ⟨k, hk, rfl, ho, hbr⟩ := hrel
    clear hown' hb
    have HO := ho
    by_cases hlt : k < n
    · obtain ⟨d, hd2⟩ : ∃ d, zs[k]? = some d := ⟨_, List.getElem?_eq_getElem (by rw [HN.out]; exact hlt)⟩
      have hcell : wr.cell? ⟨b, off + k, none⟩ = some (.int .u64 (d : Int)) := by
        rw [hbr.cell (by exact hbB)]; exact HC.out k _ (by rw [List.getElem?_map, hd2]; rfl)
      obtain ⟨o, hold⟩ : ∃ o, wr.cell? ⟨w.heap.size, k, none⟩ = some o := by
        have := ho.cellAt k (by omega)
        rw [this]
        have hl : k < (((zs.take k).map (fun u : Nat => Value.int .u64 (u : Int))) ++ List.replicate (n - k) (Value.int .u64 0)).length := by rw [ho.1]; omega
        exact ⟨_, List.getElem?_eq_getElem hl⟩
      have hfr := ho.frozenAt k
      have hst := (ho.stored k (.int .u64 (d : Int)))
      rw [row_step (fun u : Nat => Value.int .u64 (u : Int)) (Value.int .u64 0) zs n k d HN.out hlt hd2] at hst
      have R : Hid ((wr.setCell ⟨w.heap.size, k, none⟩ (.int .u64 (d : Int))).ownsRow w.heap.size 59 1 (newRow w n) n (((zs.take (k + 1)).map (fun u : Nat => Value.int .u64 (u : Int))) ++ List.replicate (n - (k + 1)) (Value.int .u64 0)) ∧ Below w.heap.size w (wr.setCell ⟨w.heap.size, k, none⟩ (.int .u64 (d : Int)))) :=
        ⟨hst.1, hbr.setCell (Nat.le_refl _) _⟩
      clear hst ho HO hbr hd2
      go_wp2
      go_roundw
      case rel => exact ⟨k + 1, by omega, by go_num, R.out.1, R.out.2⟩
      case measure => simp [intOf]; omega
    · have e : ((zs.take k).map (fun u : Nat => Value.int .u64 (u : Int))) ++ List.replicate (n - k) (Value.int .u64 0) = zs.map (fun u : Nat => Value.int .u64 (u : Int)) := by
        rw [List.take_of_length_le (by rw [HN.out]; omega), show n - k = 0 from by omega]; simp
      have R : Hid (wr.ownsRow w.heap.size 59 1 (newRow w n) n (zs.map (fun u : Nat => Value.int .u64 (u : Int))) ∧ Below w.heap.size w wr) := ⟨by rw [← e]; exact ho, hbr⟩
      clear HO ho hbr e
      go_wp2
      go_ret
      exact ⟨rfl, R.out.1, R.out.2⟩

theorem zzCloneUints_has (a : Option Addr) (n cap : Nat) (zs : List Nat) (w : World) (hn : zs.length = n) (hm : n ≤ 65536) (hnil : a = none → cap = 0) (hc : HasV w a (zs.map (fun u : Nat => Value.int .u64 (u : Int)))) :
    Calls Try.prog 22 #[.slice a n cap] w fun e w' => ∃ a' c', e = .returned (.slice a' n c') ∧ HasV w' a' (zs.map (fun u : Nat => Value.int .u64 (u : Int))) ∧ Below w.heap.size w w' := by
  by_cases h0 : n = 0
  · subst h0
    have hz : zs = [] := List.length_eq_zero_iff.1 hn
    cases a with
    | none =>
      rw [hnil rfl]
      refine (zzCloneUints_nil w).mono ?_
      rintro e w' ⟨rfl, rfl⟩
      exact ⟨none, 0, rfl, .inl (by rw [hz]; rfl), Below.refl _ _⟩
    | some x =>
      refine (zzCloneUints_empty x cap w).mono ?_
      rintro e w' ⟨rfl, hb⟩
      exact ⟨_, _, rfl, .inl (by rw [hz]; rfl), hb⟩
  · rcases hc with h | ⟨b, off, rfl, hc⟩
    · have : zs = [] := by simpa using h
      rw [this] at hn; simp at hn; omega
    · refine (zzCloneUints_some b off n cap zs w hn (by omega) hm hc).mono ?_
      rintro e w' ⟨rfl, ho, hb⟩
      refine ⟨_, _, rfl, .inr ⟨w.heap.size, 0, rfl, fun j v hj => ?_⟩, hb⟩
      have hlt : j < n := by
        have := (List.getElem?_eq_some_iff.1 hj).1
        rw [List.length_map] at this; omega
      rw [Nat.zero_add, ho.cellAt j (by omega)]
      exact hj

end Go.Proofs.Qxb6000782a
