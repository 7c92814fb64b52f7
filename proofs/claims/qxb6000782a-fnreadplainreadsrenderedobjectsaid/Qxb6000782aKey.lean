/- WALKS: zzName, zzLower, zzEqualStr, zzLowerEqualStr, zzKeyIndex: which name a key is. -/
import Derived.Test.Qxb6000782aFlip
namespace Go.Proofs.Qxb6000782a
open Go.RowKit
set_option linter.unusedVariables false
set_option linter.unusedSimpArgs false

theorem zzName_any (j : Nat) (w : World) (h : j < 6) : Calls Try.prog 38 #[.int .i64 j] w fun e w' => e = .returned (.string (nm j)) ∧ w = w' := by
  rcases (show j = 0 ∨ j = 1 ∨ j = 2 ∨ j = 3 ∨ j = 4 ∨ j = 5 by omega) with rfl | rfl | rfl | rfl | rfl | rfl
  all_goals
    go_enter Try.func38, Try.ntmps38
    go_wp2
    go_ret
    exact ⟨rfl, rfl⟩

theorem zzLower_any (c : Int) (w : World) (h0 : 0 ≤ c) (h1 : c ≤ 255) :
    Calls Try.prog 44 #[.int .u8 c] w fun e w' => e = .returned (.int .u8 (lo c)) ∧ w = w' := by
  unfold lo
  by_cases h2 : 65 ≤ c ∧ c ≤ 90
  · rw [if_pos h2]
    obtain ⟨h2, h3⟩ := h2
    go_enter Try.func44, Try.ntmps44
    go_wp2
    go_ret
    exact ⟨rfl, rfl⟩
  · rw [if_neg h2]
    rcases (show c < 65 ∨ (65 ≤ c ∧ 90 < c) by omega) with h3 | ⟨h3, h4⟩
    all_goals
      clear h2
      go_enter Try.func44, Try.ntmps44
      go_wp2
      go_ret
      exact ⟨rfl, rfl⟩

set_option maxHeartbeats 400000 in
theorem zzEqualStr_some (b off cap n : Nat) (zs : List Int) (s : ByteArray) (w : World) (hn : zs.length = n) (hm : n ≤ maxLen) (hs : s.size ≤ maxLen) (hc : At w b off zs) :
    Calls Try.prog 37 #[.slice (some ⟨b, off, none⟩) n cap, .string s] w fun e w' => e = .returned (.bool (zs == bs s)) ∧ ∃ m, w' = w.drewN m := by
  unfold maxLen at hm hs
  by_cases hl : (n : Int) = (s.size : Int)
  · have hne : ((n : Int) != (s.size : Int)) = false := by simp [hl]
    have HC : Hid (At w b off zs) := hc
    have HN : Hid (zs.length = n) := hn
    have HL : Hid (n = s.size) := by show _ = _; omega
    clear hc hn hl
    go_enter Try.func37, Try.ntmps37
    go_wp2
    go_loopw [5] (fun i wr => ∃ k : Nat, k ≤ n ∧ i = .int .i64 k ∧ Hid (∃ q, wr = w.drewN q) ∧ Hid (zs.take k = (bs s).take k)) (fun i _ => n - (intOf i).toNat)
    case atStart => exact ⟨0, Nat.zero_le _, rfl, ⟨0, rfl⟩, rfl⟩
    case round =>
      obtain ⟨k, hk, rfl, HW, hpre⟩ := hrel
      by_cases hlt : k < n
      · obtain ⟨d, hd⟩ : ∃ d, d = zs.getD k 0 := ⟨_, rfl⟩
        have hcell : wr.cell? ⟨b, off + k, none⟩ = some (.int .u8 d) := by
          obtain ⟨q, hq⟩ := HW.out
          rw [hd, hq]; exact HC.out k (by rw [HN.out]; exact hlt)
        have HD : Hid (d = zs.getD k 0) := hd
        have hks : k < s.size := by rw [← HL.out]; exact hlt
        have hks' : (k : Int) < (s.size : Int) := by omega
        have i1 : (k : Int) < (n : Int) := by omega
        clear hd
        go_wp2
        go_quiet (fail)
        go_wp2
        · go_ret
          obtain ⟨q, hq⟩ := HW.out
          refine ⟨ret_bool ?_, q + nq, by rw [hq, World.drewN_drewN]⟩
          exact (eq_no (k := k) (d := d) (by rw [HD.out]; exact getD_some (by rw [HN.out]; exact hlt)) (bs_at s k hks) (by assumption)).symm
        · go_roundw
          case rel =>
            refine ⟨k + 1, by omega, by go_num, ?_, ?_⟩
            · obtain ⟨q, hq⟩ := HW.out
              exact ⟨q + nq, by rw [hq, World.drewN_drewN]⟩
            · exact eq_snoc (k := k) (d := d) (by rw [HD.out]; exact getD_some (by rw [HN.out]; exact hlt)) (bs_at s k hks) (by assumption) hpre.out
          case measure => simp [intOf]; omega
      · go_wp2
        go_ret
        obtain ⟨q, hq⟩ := HW.out
        exact ⟨ret_bool (eq_all (k := k) (by rw [HN.out]; omega) (by rw [bs_length, ← HL.out]; omega) hpre.out).symm, q, hq⟩
  · have hne : ((n : Int) != (s.size : Int)) = true := by simp [bne, hl]
    have HF : Hid ((zs == bs s) = false) := by
      show _ = _
      rw [beq_eq_false_iff_ne]
      intro h
      apply hl
      rw [← hn, h, bs_length]
    clear hl hc
    go_enter Try.func37, Try.ntmps37
    go_wp2
    go_ret
    exact ⟨ret_bool HF.out.symm, 0, rfl⟩

theorem zzEqualStr_has (a : Option Addr) (cap n : Nat) (zs : List Int) (s : ByteArray) (w : World) (hn : zs.length = n) (hm : n ≤ maxLen) (hs : s.size ≤ maxLen) (h0 : 0 < s.size) (hc : Has w a zs) :
    Calls Try.prog 37 #[.slice a n cap, .string s] w fun e w' => e = .returned (.bool (zs == bs s)) ∧ ∃ m, w' = w.drewN m := by
  rcases hc with h | ⟨b, off, e, h⟩
  · subst h
    have h0' : n = 0 := by simpa using hn.symm
    subst h0'
    have hne : ((0 : Int) != (s.size : Int)) = true := by simp [bne]; omega
    have HF : Hid ((([] : List Int) == bs s) = false) := by
      show _ = _
      rw [beq_eq_false_iff_ne]
      intro h
      have := congrArg List.length h
      rw [bs_length] at this
      simp at this
      omega
    clear hn
    go_enter Try.func37, Try.ntmps37
    go_wp2
    go_ret
    exact ⟨ret_bool HF.out.symm, 0, rfl⟩
  · subst e
    exact zzEqualStr_some b off cap n zs s w hn hm hs h

set_option maxHeartbeats 400000 in
theorem zzLowerEqualStr_some (b off cap n : Nat) (zs : List Int) (s : ByteArray) (w : World) (hn : zs.length = n) (hm : n ≤ maxLen) (hs : s.size ≤ maxLen) (hb : Byt zs) (hc : At w b off zs) :
    Calls Try.prog 39 #[.slice (some ⟨b, off, none⟩) n cap, .string s] w fun e w' => e = .returned (.bool (zs.map lo == bs s)) ∧ ∃ m, w' = w.drewN m := by
  unfold maxLen at hm hs
  by_cases hl : (n : Int) = (s.size : Int)
  · have hne : ((n : Int) != (s.size : Int)) = false := by simp [hl]
    have HC : Hid (At w b off zs) := hc
    have HN : Hid (zs.length = n) := hn
    have HL : Hid (n = s.size) := by show _ = _; omega
    clear hc hn hl
    go_enter Try.func39, Try.ntmps39
    go_wp2
    go_loopw [5] (fun i wr => ∃ k : Nat, k ≤ n ∧ i = .int .i64 k ∧ Hid (∃ q, wr = w.drewN q) ∧ Hid ((zs.map lo).take k = (bs s).take k)) (fun i _ => n - (intOf i).toNat)
    case atStart => exact ⟨0, Nat.zero_le _, rfl, ⟨0, rfl⟩, rfl⟩
    case round =>
      obtain ⟨k, hk, rfl, HW, hpre⟩ := hrel
      by_cases hlt : k < n
      · obtain ⟨d, hd⟩ : ∃ d, d = zs.getD k 0 := ⟨_, rfl⟩
        have hcell : wr.cell? ⟨b, off + k, none⟩ = some (.int .u8 d) := by
          obtain ⟨q, hq⟩ := HW.out
          rw [hd, hq]; exact HC.out k (by rw [HN.out]; exact hlt)
        have hdb := hb.at k
        rw [← hd] at hdb
        obtain ⟨hd0, hd1⟩ := hdb
        have HD : Hid ((zs.map lo)[k]? = some (lo d)) := by
          show _ = _
          rw [List.getElem?_map, getD_some (by rw [HN.out]; exact hlt), hd]; rfl
        have hks : k < s.size := by rw [← HL.out]; exact hlt
        have hks' : (k : Int) < (s.size : Int) := by omega
        have i1 : (k : Int) < (n : Int) := by omega
        clear hd
        go_wp2
        go_quiet ((go_at_call 44; refine quiet_same (zzLower_any _ _ ?_ ?_) <;> omega))
        go_wp2
        · go_ret
          obtain ⟨q, hq⟩ := HW.out
          refine ⟨ret_bool ?_, q + nq, by rw [hq, World.drewN_drewN]⟩
          exact (eq_no (k := k) (d := lo d) HD.out (bs_at s k hks) (by assumption)).symm
        · go_roundw
          case rel =>
            refine ⟨k + 1, by omega, by go_num, ?_, ?_⟩
            · obtain ⟨q, hq⟩ := HW.out
              exact ⟨q + nq, by rw [hq, World.drewN_drewN]⟩
            · exact eq_snoc (k := k) (d := lo d) HD.out (bs_at s k hks) (by assumption) hpre.out
          case measure => simp [intOf]; omega
      · go_wp2
        go_ret
        obtain ⟨q, hq⟩ := HW.out
        exact ⟨ret_bool (eq_all (k := k) (by simp [HN.out]; omega) (by rw [bs_length, ← HL.out]; omega) hpre.out).symm, q, hq⟩
  · have hne : ((n : Int) != (s.size : Int)) = true := by simp [bne, hl]
    have HF : Hid ((zs.map lo == bs s) = false) := by
      show _ = _
      rw [beq_eq_false_iff_ne]
      intro h
      apply hl
      have := congrArg List.length h
      rw [bs_length, List.length_map, hn] at this
      rw [this]
    clear hl hc
    go_enter Try.func39, Try.ntmps39
    go_wp2
    go_ret
    exact ⟨ret_bool HF.out.symm, 0, rfl⟩

theorem zzLowerEqualStr_has (a : Option Addr) (cap n : Nat) (zs : List Int) (s : ByteArray) (w : World) (hn : zs.length = n) (hm : n ≤ maxLen) (hs : s.size ≤ maxLen) (h0 : 0 < s.size) (hb : Byt zs) (hc : Has w a zs) :
    Calls Try.prog 39 #[.slice a n cap, .string s] w fun e w' => e = .returned (.bool (zs.map lo == bs s)) ∧ ∃ m, w' = w.drewN m := by
  rcases hc with h | ⟨b, off, e, h⟩
  · subst h
    have h0' : n = 0 := by simpa using hn.symm
    subst h0'
    have hne : ((0 : Int) != (s.size : Int)) = true := by simp [bne]; omega
    have HF : Hid (((([] : List Int).map lo) == bs s) = false) := by
      show _ = _
      rw [beq_eq_false_iff_ne]
      intro h
      have := congrArg List.length h
      rw [bs_length] at this
      simp at this
      omega
    clear hn hb
    go_enter Try.func39, Try.ntmps39
    go_wp2
    go_ret
    exact ⟨ret_bool HF.out.symm, 0, rfl⟩
  · subst e
    exact zzLowerEqualStr_some b off cap n zs s w hn hm hs hb h

/-- The names are small letters: to fold them is to leave them. -/
theorem lo_nm (j : Nat) (h : j < 6) : (bs (nm j)).map lo = bs (nm j) := by
  have := nm_small j h
  conv => rhs; rw [← List.map_id (bs (nm j))]
  refine List.map_congr_left fun c hc => ?_
  have := this c hc
  unfold lo
  rw [if_neg (by omega)]
  rfl

theorem fold_nm (zs : List Int) (j : Nat) (h : j < 6) : foldEq zs (bs (nm j)) = (zs.map lo == bs (nm j)) := by
  unfold foldEq; rw [lo_nm j h]

/-- No two names are alike. -/
theorem nm_inj (i j : Nat) (hi : i < 6) (hj : j < 6) (h : bs (nm i) = bs (nm j)) : i = j := by
  have key : ∀ i, i < 6 → ∀ j, j < 6 → bs (nm i) = bs (nm j) → i = j := by decide +kernel
  exact key i hi j hj h

theorem any_same {p q : Nat → Bool} (l : List Nat) (h : ∀ j ∈ l, p j = q j) : l.any p = l.any q := by
  induction l with
  | nil => rfl
  | cons a r ih => rw [List.any_cons, List.any_cons, h a (by simp), ih fun j hj => h j (by simp [hj])]

/-- How far the search for the exact name has come. -/
def ExactTo (zs : List Int) (k : Nat) (v : Int) : Prop := (∃ n : Nat, n < k ∧ exactAt zs n = true ∧ v = (n : Int)) ∨ ((∀ n, n < k → exactAt zs n = false) ∧ v = -1)

theorem exactTo_end {zs : List Int} {v : Int} (h : ExactTo zs 6 v) : v = zIdx zs := by
  rcases h with ⟨n, hn, he, rfl⟩ | ⟨hn, rfl⟩
  · have hz : zs = bs (nm n) := beq_iff_eq.1 he
    have : vIdx zs = some n := by
      refine find_hit hn he fun i hi => ?_
      cases hh : exactAt zs i
      · rfl
      · have : zs = bs (nm i) := beq_iff_eq.1 hh
        have := nm_inj i n (by omega) hn (by rw [← this, hz])
        omega
    simp [zIdx, this]
  · have : vIdx zs = none := find_miss hn
    simp [zIdx, this]

set_option maxHeartbeats 1000000 in
theorem zzKeyIndex_any (a : Option Addr) (n cap : Nat) (zs : List Int) (w : World) (hn : zs.length = n) (hm : n ≤ maxLen) (hb : Byt zs) (hc : Has w a zs) :
    Calls Try.prog 26 #[.slice a n cap] w fun e w' => e = .returned (.tuple #[.int .i64 (zIdx zs), .bool (vFold zs)]) ∧ ∃ m, w' = w.drewN m := by
  have HE : Hid (∀ (q j : Nat), Calls Try.prog 37 #[.slice a n cap, .string (nm j)] (w.drewN q) fun e w' => e = .returned (.bool (zs == bs (nm j))) ∧ ∃ m, w' = (w.drewN q).drewN m) :=
    fun q j => zzEqualStr_has a cap n zs (nm j) _ hn hm (nm_size j).2 (nm_size j).1 (by rcases hc with h | ⟨b, off, e, h⟩; exact .inl h; exact .inr ⟨b, off, e, h⟩)
  have HL : Hid (∀ (q j : Nat), Calls Try.prog 39 #[.slice a n cap, .string (nm j)] (w.drewN q) fun e w' => e = .returned (.bool (zs.map lo == bs (nm j))) ∧ ∃ m, w' = (w.drewN q).drewN m) :=
    fun q j => zzLowerEqualStr_has a cap n zs (nm j) _ hn hm (nm_size j).2 (nm_size j).1 hb (by rcases hc with h | ⟨b, off, e, h⟩; exact .inl h; exact .inr ⟨b, off, e, h⟩)
  clear hn hm hb hc
  go_enter Try.func26, Try.ntmps26
  go_wp2
  go_loopw [4, 5, 6] (fun v4 v5 v6 wr => ∃ (k : Nat) (x : Int), k ≤ 6 ∧ v6 = .int .i64 k ∧ v4 = .int .i64 x ∧ Hid (ExactTo zs k x) ∧ v5 = .bool ((List.range k).any fun j => zs.map lo == bs (nm j)) ∧ Hid (∃ q, wr = w.drewN q)) (fun _ _ v6 _ => 6 - (intOf v6).toNat)
  case atStart => exact ⟨0, -1, Nat.zero_le _, rfl, rfl, .inr ⟨fun n h => absurd h (Nat.not_lt_zero n), rfl⟩, rfl, 0, rfl⟩
  case round =>
    obtain ⟨k, x, hk, rfl, rfl, HX, rfl, HW⟩ := hrel
    by_cases hlt : k < 6
    · have hlt' : (k : Int) < 6 := by omega
      obtain ⟨q, hq⟩ := HW.out
      subst hq
      clear HW
      have HF : Hid (((List.range (k + 1)).any fun j => zs.map lo == bs (nm j)) = (((List.range k).any fun j => zs.map lo == bs (nm j)) || (zs.map lo == bs (nm k)))) := by
        show _ = _
        rw [List.range_succ, List.any_append]; simp
      obtain ⟨f0, hf0⟩ : ∃ f0, f0 = ((List.range k).any fun j => zs.map lo == bs (nm j)) := ⟨_, rfl⟩
      rw [← hf0] at HF ⊢
      clear hf0
      go_wp2_with fail
      refine (zzName_any k _ hlt).mono ?_
      rintro e w' ⟨rfl, rfl⟩
      go_wp2_with fail
      refine (HE.out _ k).mono ?_
      rintro e w' ⟨rfl, m1, rfl⟩
      cases he : (zs == bs (nm k))
      · have HX' : Hid (ExactTo zs (k + 1) x) := by
          rcases HX.out with ⟨i, hi, h, h'⟩ | ⟨h, h'⟩
          · exact .inl ⟨i, by omega, h, h'⟩
          · refine .inr ⟨fun i hi => ?_, h'⟩
            rcases Nat.lt_or_ge i k with h1 | h1
            · exact h i h1
            · rw [show i = k from by omega]; exact he
        clear HX he
        go_wp2_with fail
        refine (zzName_any k _ hlt).mono ?_
        rintro e w' ⟨rfl, rfl⟩
        go_wp2_with fail
        refine (HL.out _ k).mono ?_
        rintro e w' ⟨rfl, m2, rfl⟩
        cases hf : (zs.map lo == bs (nm k))
        all_goals
          have HF2 : Hid _ := hf
          clear hf
          go_wp2
          go_roundw
          case rel => exact ⟨k + 1, x, by omega, by go_num, rfl, HX'.out, by rw [HF.out, HF2.out]; simp, _, rfl⟩
          case measure => simp [intOf]; omega
      · have HX' : Hid (ExactTo zs (k + 1) (k : Int)) := .inl ⟨k, by omega, he, rfl⟩
        clear HX he
        go_wp2_with fail
        refine (zzName_any k _ hlt).mono ?_
        rintro e w' ⟨rfl, rfl⟩
        go_wp2_with fail
        refine (HL.out _ k).mono ?_
        rintro e w' ⟨rfl, m2, rfl⟩
        cases hf : (zs.map lo == bs (nm k))
        all_goals
          have HF2 : Hid _ := hf
          clear hf
          go_wp2
          go_roundw
          case rel => exact ⟨k + 1, (k : Int), by omega, by go_num, rfl, HX'.out, by rw [HF.out, HF2.out]; simp, _, rfl⟩
          case measure => simp [intOf]; omega
    · obtain ⟨q, hq⟩ := HW.out
      subst hq
      have h6 : k = 6 := by omega
      subst h6
      have HR : Hid (x = zIdx zs ∧ ((List.range 6).any fun j => zs.map lo == bs (nm j)) = vFold zs) := by
        refine ⟨exactTo_end HX.out, ?_⟩
        unfold vFold
        refine any_same _ fun j hj => ?_
        rw [fold_nm zs j (by simpa using hj)]
      go_wp2
      go_ret2
      exact ⟨ret_pe HR.out.1 HR.out.2, q, rfl⟩

end Go.Proofs.Qxb6000782a
