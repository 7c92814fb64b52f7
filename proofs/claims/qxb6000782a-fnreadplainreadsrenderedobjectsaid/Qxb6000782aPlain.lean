/- THE WALKS OF 'zzPlainByte', 'zzPlainBytes'. -/
import Derived.Test.Qxb6000782aWs
namespace Go.Proofs.Qxb6000782a
open Go.RowKit
set_option linter.unusedVariables false
set_option linter.unusedSimpArgs false

/-- zzPlainByte. -/
def pb0 (c : Int) : Int := if c < 32 ∨ 126 < c then 32 + c % 95 else c
def pb (c : Int) : Int := if pb0 c = 34 ∨ pb0 c = 92 then 95 else pb0 c
def pbs (s : ByteArray) : List Int := (bs s).map pb

theorem pb0_range {c : Int} (h0 : 0 ≤ c) (h1 : c ≤ 255) : 32 ≤ pb0 c ∧ pb0 c ≤ 126 := by unfold pb0; split <;> omega

theorem pb_good {c : Int} (h0 : 0 ≤ c) (h1 : c ≤ 255) : Tok.good (pb c) = true := by
  have h := pb0_range h0 h1
  unfold pb
  split
  · decide
  · unfold Tok.good
    simp
    omega

theorem bs_byt (s : ByteArray) : Byt (bs s) := by
  intro c hc
  obtain ⟨u, _, rfl⟩ := List.mem_map.1 hc
  have := u.toNat_lt
  omega

theorem pbs_good (s : ByteArray) : ∀ c ∈ pbs s, Tok.good c = true := by
  intro c hc
  obtain ⟨d, hd, rfl⟩ := List.mem_map.1 hc
  exact pb_good (bs_byt s d hd).1 (bs_byt s d hd).2

theorem good_byt {zs : List Int} (h : ∀ c ∈ zs, Tok.good c = true) : Byt zs := by
  intro c hc
  have := good_yes (h c hc)
  omega

theorem pbs_len (s : ByteArray) : (pbs s).length = s.size := by unfold pbs; rw [List.length_map, bs_length]

theorem zzPlainByte_any (c : Int) (w : World) (h0 : 0 ≤ c) (h1 : c ≤ 255) :
    Calls Try.prog 35 #[.int .u8 c] w fun e w' => e = .returned (.int .u8 (pb c)) ∧ w = w' := by
  have hr := pb0_range h0 h1
  obtain ⟨r0, r1⟩ := hr
  by_cases ho : c < 32 ∨ 126 < c
  · have e0 : pb0 c = 32 + c % 95 := by unfold pb0; rw [if_pos ho]
    have HP : Hid (pb c = if 32 + c % 95 = 34 ∨ 32 + c % 95 = 92 then 95 else 32 + c % 95) := by show _ = _; unfold pb; rw [e0]
    rw [e0] at r0 r1
    clear e0
    rcases ho with h | h
    · by_cases h34 : 32 + c % 95 = 34
      · have t : (32 + c % 95 == 34) = true := beq_iff_eq.2 h34
        have HQ : Hid _ := h34
        clear h34
        go_enter Try.func35, Try.ntmps35
        go_wp2
        go_ret
        exact ⟨ret_u8 (by rw [HP.out, if_pos (.inl HQ.out)]), rfl⟩
      · have t : (32 + c % 95 == 34) = false := beq_eq_false_iff_ne.2 h34
        by_cases h92 : 32 + c % 95 = 92
        · have t2 : (32 + c % 95 == 92) = true := beq_iff_eq.2 h92
          have HQ : Hid _ := h92
          clear h92 h34
          go_enter Try.func35, Try.ntmps35
          go_wp2
          go_ret
          exact ⟨ret_u8 (by rw [HP.out, if_pos (.inr HQ.out)]), rfl⟩
        · have t2 : (32 + c % 95 == 92) = false := beq_eq_false_iff_ne.2 h92
          have HQ : Hid (¬ (32 + c % 95 = 34 ∨ 32 + c % 95 = 92)) := by intro hh; omega
          clear h92 h34
          go_enter Try.func35, Try.ntmps35
          go_wp2
          go_ret
          exact ⟨ret_u8 (by rw [HP.out, if_neg HQ.out]), rfl⟩
    · have h' : ¬ c < 32 := by omega
      by_cases h34 : 32 + c % 95 = 34
      · have t : (32 + c % 95 == 34) = true := beq_iff_eq.2 h34
        have HQ : Hid _ := h34
        clear h34
        go_enter Try.func35, Try.ntmps35
        go_wp2
        go_ret
        exact ⟨ret_u8 (by rw [HP.out, if_pos (.inl HQ.out)]), rfl⟩
      · have t : (32 + c % 95 == 34) = false := beq_eq_false_iff_ne.2 h34
        by_cases h92 : 32 + c % 95 = 92
        · have t2 : (32 + c % 95 == 92) = true := beq_iff_eq.2 h92
          have HQ : Hid _ := h92
          clear h92 h34
          go_enter Try.func35, Try.ntmps35
          go_wp2
          go_ret
          exact ⟨ret_u8 (by rw [HP.out, if_pos (.inr HQ.out)]), rfl⟩
        · have t2 : (32 + c % 95 == 92) = false := beq_eq_false_iff_ne.2 h92
          have HQ : Hid (¬ (32 + c % 95 = 34 ∨ 32 + c % 95 = 92)) := by intro hh; omega
          clear h92 h34
          go_enter Try.func35, Try.ntmps35
          go_wp2
          go_ret
          exact ⟨ret_u8 (by rw [HP.out, if_neg HQ.out]), rfl⟩
  · have e0 : pb0 c = c := by unfold pb0; rw [if_neg ho]
    have HP : Hid (pb c = if c = 34 ∨ c = 92 then 95 else c) := by show _ = _; unfold pb; rw [e0]
    rw [e0] at r0 r1
    clear e0 ho
    by_cases h34 : c = 34
    · have t : (c == 34) = true := beq_iff_eq.2 h34
      have HQ : Hid _ := h34
      clear h34
      go_enter Try.func35, Try.ntmps35
      go_wp2
      go_ret
      exact ⟨ret_u8 (by rw [HP.out, if_pos (.inl HQ.out)]), rfl⟩
    · have t : (c == 34) = false := beq_eq_false_iff_ne.2 h34
      by_cases h92 : c = 92
      · have t2 : (c == 92) = true := beq_iff_eq.2 h92
        have HQ : Hid _ := h92
        clear h92 h34
        go_enter Try.func35, Try.ntmps35
        go_wp2
        go_ret
        exact ⟨ret_u8 (by rw [HP.out, if_pos (.inr HQ.out)]), rfl⟩
      · have t2 : (c == 92) = false := beq_eq_false_iff_ne.2 h92
        have HQ : Hid (¬ (c = 34 ∨ c = 92)) := by intro hh; omega
        clear h92 h34
        go_enter Try.func35, Try.ntmps35
        go_wp2
        go_ret
        exact ⟨ret_u8 (by rw [HP.out, if_neg HQ.out]), rfl⟩

set_option maxHeartbeats 400000 in
theorem zzPlainBytes_any (s : ByteArray) (w : World) (hm : s.size ≤ 1099511627776) :
    Calls Try.prog 24 #[.string s] w fun e w' => e = .returned (newRow w s.size) ∧ Row w' (newRow w s.size) (pbs s) ∧ Below w.heap.size w w' := by
  obtain ⟨i0, hi, hz0, hz1, hz2⟩ := info_parts Try.info5
  obtain ⟨zs, hzs⟩ : ∃ zs, zs = pbs s := ⟨_, rfl⟩
  have HZ : Hid (zs = pbs s) := hzs
  have HN : Hid (zs.length = s.size) := by show _ = _; rw [hzs, pbs_len]
  clear hzs
  have hnew : Hid (∀ w1 : World, w.grownBy w1 none → Below w.heap.size w w1) := fun w1 h => (Below.refl _ _).grown h (Nat.le_refl _) (by simp)
  go_enter Try.func24, Try.ntmps24
  go_wp2_with (at_make; refine wpList_make_full _ rfl _ _ 22 rfl 0 5 i0 (.int .u8 0) 1 Try.underlying22 hi hz0 hz1 .i64 .i64 _ _ s.size rfl rfl rfl rfl (by rw [hz2]; omega) (by unfold maxLen; omega) (Nat.zero_le _) ?_; intro w1 hown hgrow)
  have hb := hnew.out w1 hgrow
  have hown' : w1.ownsRow 0 5 1 (newRow w s.size) s.size (((zs.take 0).map (Value.int .u8)) ++ List.replicate (s.size - 0) (.int .u8 0)) := by
    have e : (madeCells (Value.int .u8 0).cells (s.size * 1)).toList = List.replicate s.size (.int .u8 0) := by rw [Nat.mul_one]; exact toList_madeCells_one _ _
    rw [e] at hown
    simpa using hown
  clear hown hgrow hnew hi hz0 hz1 hz2
  go_loopw [4] (fun i wr => ∃ k : Nat, k ≤ s.size ∧ i = .int .i64 k ∧ Hid (wr.ownsRow 0 5 1 (newRow w s.size) s.size (((zs.take k).map (Value.int .u8)) ++ List.replicate (s.size - k) (.int .u8 0))) ∧ Hid (Below w.heap.size w wr)) (fun i _ => s.size - (intOf i).toNat)
  case atStart => exact ⟨0, Nat.zero_le _, rfl, hown', hb⟩
  case round =>
    clear hown' hb
    obtain ⟨k, hk, rfl, HO, HB⟩ := hrel
    by_cases hlt : k < s.size
    · have hd2 : Hid (zs[k]? = some (pb (s[k].toNat : Int))) := by
        show _ = _
        rw [HZ.out]; unfold pbs; rw [List.getElem?_map, bs_at s k hlt]; rfl
      have hu : (s[k].toNat : Int) ≤ 255 := by have := s[k].toNat_lt; omega
      obtain ⟨o, hold⟩ : ∃ o, wr.cell? ⟨w.heap.size, k, none⟩ = some o := by
        have := HO.out.cellAt k (by omega)
        rw [this]
        have hl : k < (((zs.take k).map (Value.int .u8)) ++ List.replicate (s.size - k) (Value.int .u8 0)).length := by rw [HO.out.1]; omega
        exact ⟨_, List.getElem?_eq_getElem hl⟩
      have hfr := HO.out.frozenAt k
      have R : Hid ((wr.setCell ⟨w.heap.size, k, none⟩ (.int .u8 (pb (s[k].toNat : Int)))).ownsRow 0 5 1 (newRow w s.size) s.size (((zs.take (k + 1)).map (Value.int .u8)) ++ List.replicate (s.size - (k + 1)) (.int .u8 0)) ∧ Below w.heap.size w (wr.setCell ⟨w.heap.size, k, none⟩ (.int .u8 (pb (s[k].toNat : Int))))) := by
        have hst := (HO.out.stored k (.int .u8 (pb (s[k].toNat : Int))))
        rw [row_step (Value.int .u8) (.int .u8 0) zs s.size k _ HN.out hlt hd2.out] at hst
        exact ⟨hst.1, HB.out.setCell (Nat.le_refl _) _⟩
      go_wp2_with (go_at_call 35; refine (zzPlainByte_any _ _ ?_ ?_).mono ?_; omega; omega; rintro e w' ⟨rfl, rfl⟩)
      go_roundw
      case rel => exact ⟨k + 1, by omega, by go_num, R.out.1, R.out.2⟩
      case measure => simp [intOf]; omega
    · have R : Hid (Row wr (newRow w s.size) (pbs s) ∧ Below w.heap.size w wr) := by
        refine ⟨?_, HB.out⟩
        have h := HO.out
        rw [List.take_of_length_le (by rw [HN.out]; omega), show s.size - k = 0 from by omega] at h
        unfold Row
        rw [pbs_len, ← HZ.out]
        simpa using h
      clear HO HB
      go_wp2
      go_ret
      exact ⟨rfl, R.out.1, R.out.2⟩

end Go.Proofs.Qxb6000782a
