/- WALKS OVER BYTES: the small functions that read a slice of bytes. Each computes a plain function of the bytes (Qxb6000782aTok). -/
import Derived.Test.Qxb6000782aProg
import Derived.Test.Qxb6000782aTok
import Derived.WalkKit
namespace Go.Proofs.Qxb6000782a
open Go.RowKit
set_option linter.unusedVariables false

/-- The bytes 'zs' lie at block b from 'off' on. -/
def At (w : World) (b off : Nat) (zs : List Int) : Prop := ∀ j, j < zs.length → w.cell? ⟨b, off + j, none⟩ = some (.int .u8 (zs.getD j 0))

theorem ret_bool {a b : Bool} (h : a = b) : Ending.returned (.bool a) = .returned (.bool b) := by rw [h]

theorem zzIsDigit_any (c : Int) (w : World) :
    Calls Try.prog 15 #[.int .u8 c] w fun e w' => e = .returned (.bool (Tok.dig c)) ∧ w = w' := by
  unfold Tok.dig
  by_cases h1 : 48 ≤ c <;> by_cases h2 : c ≤ 57
  all_goals
    go_enter Try.func15, Try.ntmps15
    go_wp2
    go_ret
    exact ⟨ret_bool (by simp [h1, h2]), rfl⟩

theorem isDigit_any (c : Int) (w : World) :
    Calls Try.prog 42 #[.int .u8 c] w fun e w' => e = .returned (.bool (Tok.dig c)) ∧ w = w' := by
  unfold Tok.dig
  by_cases h1 : 48 ≤ c <;> by_cases h2 : c ≤ 57
  all_goals
    go_enter Try.func42, Try.ntmps42
    go_wp2
    go_ret
    exact ⟨ret_bool (by simp [h1, h2]), rfl⟩

theorem all_snoc (f : Int → Bool) (zs : List Int) (k : Nat) (h : k < zs.length) : (zs.take (k + 1)).all f = ((zs.take k).all f && f (zs.getD k 0)) := by
  rw [List.take_succ_eq_append_getElem h, List.all_append, List.getD_eq_getElem?_getD, List.getElem?_eq_getElem h]
  simp

theorem all_false (f : Int → Bool) (zs : List Int) (k : Nat) (h : k < zs.length) (hf : f (zs.getD k 0) = false) : zs.all f = false := by
  rw [← Bool.not_eq_true, List.all_eq_true]
  intro hall
  have := hall zs[k] (List.getElem_mem h)
  rw [List.getD_eq_getElem?_getD, List.getElem?_eq_getElem h] at hf
  simp at hf
  rw [hf] at this
  cases this

/-- zzIsPlainNumber of no byte. -/
theorem isPlainNumber_none (a : Option Addr) (cap : Nat) (w : World) :
    Calls Try.prog 32 #[.slice a 0 cap] w fun e w' => e = .returned (.bool false) ∧ w = w' := by
  go_enter Try.func32, Try.ntmps32
  go_wp2
  go_ret
  exact ⟨rfl, rfl⟩

theorem isPlainNumber_some (b off cap : Nat) (c : Int) (r : List Int) (w : World) (hm : (c :: r).length ≤ maxLen) (hc : At w b off (c :: r)) :
    Calls Try.prog 32 #[.slice (some ⟨b, off, none⟩) (c :: r).length cap] w fun e w' => e = .returned (.bool (Tok.isNum (c :: r))) ∧ w = w' := by
  obtain ⟨n, hn⟩ : ∃ n, n = (c :: r).length := ⟨_, rfl⟩
  have hpos : 0 < n := by rw [hn]; simp
  have hone : (n = 1 ↔ r = []) := by rw [hn]; simp
  rw [← hn] at hm ⊢
  have h0 : w.cell? ⟨b, off, none⟩ = some (.int .u8 c) := hc 0 (by simp)
  unfold maxLen at hm
  have hn0 : ((n : Int) == 0) = false := beq_eq_false_iff_ne.2 (by omega)
  have HN : Hid (n = (c :: r).length) := hn
  clear hn
  by_cases hz : c = 48
  · have hfin : Tok.isNum (c :: r) = ((n : Int) == 1) := by
      subst hz
      simp only [Tok.isNum, beq_self_eq_true, if_true]
      rw [Bool.eq_iff_iff, List.isEmpty_iff, beq_iff_eq, ← hone]; omega
    rw [hfin]
    have hz' : (c == 48) = true := by simpa using hz
    clear hc hone hfin hz
    go_enter Try.func32, Try.ntmps32
    go_wp2
    go_ret
    exact ⟨rfl, rfl⟩
  · have hz' : (c == 48) = false := by simpa using hz
    have HF : Hid (Tok.isNum (c :: r) = (c :: r).all Tok.dig) := by
      show Tok.isNum (c :: r) = _
      simp only [Tok.isNum, hz', Bool.false_eq_true, if_false]
    have HC : Hid (At w b off (c :: r)) := hc
    clear hc hone hz
    go_enter Try.func32, Try.ntmps32
    go_wp2
    go_loop [4] (fun i => ∃ k : Nat, k ≤ n ∧ i = .int .i64 k ∧ Hid (((c :: r).take k).all Tok.dig = true)) (fun i => n - (intOf i).toNat)
    case atStart => exact ⟨0, Nat.zero_le _, rfl, rfl⟩
    case round =>
      obtain ⟨k, hk, rfl, hall⟩ := hrel
      by_cases hlt : k < n
      · obtain ⟨d, hd⟩ : ∃ d, d = (c :: r).getD k 0 := ⟨_, rfl⟩
        have hcell : w.cell? ⟨b, off + k, none⟩ = some (.int .u8 d) := by rw [hd]; exact HC.out k (by rw [← HN.out]; exact hlt)
        have HD : Hid (d = (c :: r).getD k 0) := hd
        clear hd
        cases hdg : Tok.dig d
        · go_wp2_with (go_at_call 15; refine (zzIsDigit_any _ _).mono ?_; rintro e w' ⟨rfl, rfl⟩)
          go_ret
          exact ⟨ret_bool (by rw [HF.out]; exact (all_false _ _ k (by rw [← HN.out]; exact hlt) (by rw [← HD.out]; exact hdg)).symm), rfl⟩
        · go_wp2_with (go_at_call 15; refine (zzIsDigit_any _ _).mono ?_; rintro e w' ⟨rfl, rfl⟩)
          go_round
          case rel => exact ⟨k + 1, by omega, by go_num, by show _ = _; rw [all_snoc _ _ _ (by rw [← HN.out]; exact hlt), hall.out, ← HD.out, hdg]; rfl⟩
          case measure => simp [intOf]; omega
      · go_wp2
        go_ret
        exact ⟨ret_bool (by rw [HF.out]; have := hall.out; rw [List.take_of_length_le (by rw [← HN.out]; omega)] at this; exact this.symm), rfl⟩

theorem isBody_eq : ∀ (r : List Int), r ≠ [] → Tok.isBody r = ((r.take (r.length - 1)).all Tok.good && (r.getD (r.length - 1) 0 == 34))
  | [], h => absurd rfl h
  | [c], _ => by simp [Tok.isBody]
  | c :: d :: r, _ => by
    have ih := isBody_eq (d :: r) (by simp)
    simp only [Tok.isBody, ih, List.length_cons, Nat.add_sub_cancel, List.take_succ_cons, List.all_cons, Bool.and_assoc, List.getD_cons_succ]

theorem good_no {d : Int} (h : Tok.good d = false) : (d < 32) ∨ (32 ≤ d ∧ 126 < d) ∨ (32 ≤ d ∧ d ≤ 126 ∧ (d == 34) = true) ∨ (32 ≤ d ∧ d ≤ 126 ∧ (d == 34) = false ∧ (d == 92) = true) := by
  unfold Tok.good at h
  by_cases h1 : 32 ≤ d <;> by_cases h2 : d ≤ 126 <;> cases h3 : (d == 34) <;> cases h4 : (d == 92) <;> simp [h1, h2, h3, h4] at h ⊢ <;> omega

theorem good_yes {d : Int} (h : Tok.good d = true) : 32 ≤ d ∧ d ≤ 126 ∧ (d == 34) = false ∧ (d == 92) = false := by
  unfold Tok.good at h
  simp only [Bool.and_eq_true, decide_eq_true_eq, Bool.not_eq_true'] at h
  exact ⟨h.1.1.1, h.1.1.2, h.1.2, h.2⟩

set_option maxHeartbeats 400000 in
theorem isPlainToken_some (b off cap : Nat) (c : Int) (r : List Int) (w : World) (hm : (c :: r).length ≤ maxLen) (hc : At w b off (c :: r)) :
    Calls Try.prog 12 #[.slice (some ⟨b, off, none⟩) (c :: r).length cap] w fun e w' => e = .returned (.bool (Tok.isTok (c :: r))) ∧ w = w' := by
  have hnum := isPlainNumber_some b off cap c r w hm hc
  obtain ⟨n, hn⟩ : ∃ n, n = (c :: r).length := ⟨_, rfl⟩
  have hpos : 0 < n := by rw [hn]; simp
  have hrl : n = r.length + 1 := by rw [hn]; simp
  rw [← hn] at hm hnum ⊢
  have h0 : w.cell? ⟨b, off, none⟩ = some (.int .u8 c) := hc 0 (by simp)
  have HC : Hid (At w b off (c :: r)) := hc
  clear hc hn
  unfold maxLen at hm
  have hn0 : ((n : Int) == 0) = false := beq_eq_false_iff_ne.2 (by omega)
  by_cases hq : c = 34
  · have hq' : (c == 34) = true := by simpa using hq
    have HF : Hid (Tok.isTok (c :: r) = Tok.isBody r) := by show _ = _; simp [Tok.isTok, hq]
    clear hnum hq
    by_cases hr : r = []
    · have hn1 : (n : Int) < 2 := by subst hr; simp at hrl; omega
      have HR : Hid (Tok.isBody r = false) := by show _ = _; subst hr; rfl
      clear hr hrl
      go_enter Try.func12, Try.ntmps12
      go_wp2
      go_ret
      exact ⟨ret_bool (by rw [HF.out, HR.out]), rfl⟩
    · have hn2 : 2 ≤ n := by have := List.length_pos_iff.2 hr; omega
      have HB : Hid (Tok.isBody r = ((r.take (r.length - 1)).all Tok.good && (r.getD (r.length - 1) 0 == 34))) := isBody_eq r hr
      have HL : Hid (n = r.length + 1) := hrl
      clear hrl hr
      obtain ⟨l, hl⟩ : ∃ l, l = r.getD (r.length - 1) 0 := ⟨_, rfl⟩
      have hcl : w.cell? ⟨b, off + (n - 1), none⟩ = some (.int .u8 l) := by
        rw [hl]
        have := HC.out (n - 1) (by rw [HL.out]; simp)
        rw [this, HL.out]
        obtain ⟨q, hq⟩ : ∃ q, r.length = q + 1 := ⟨r.length - 1, by have := HL.out; omega⟩
        rw [hq]; simp
      have HLL : Hid (l = r.getD (r.length - 1) 0) := hl
      clear hl
      cases hlq : (l == 34)
      · have hne : (l != 34) = true := by simp [bne, hlq]
        go_enter Try.func12, Try.ntmps12
        go_wp2
        go_ret
        exact ⟨ret_bool (by rw [HF.out, HB.out, ← HLL.out, hlq, Bool.and_false]), rfl⟩
      · have hne : (l != 34) = false := by simp [bne, hlq]
        go_enter Try.func12, Try.ntmps12
        go_wp2
        go_loop [4] (fun i => ∃ k : Nat, k + 1 ≤ n - 1 ∧ i = .int .i64 ((k : Int) + 1) ∧ Hid ((r.take k).all Tok.good = true)) (fun i => n - (intOf i).toNat)
        case atStart => exact ⟨0, by omega, rfl, rfl⟩
        case round =>
          obtain ⟨k, hk, rfl, hall⟩ := hrel
          by_cases hlt : (k : Int) + 1 < (n : Int) - 1
          · obtain ⟨d, hd⟩ : ∃ d, d = r.getD k 0 := ⟨_, rfl⟩
            have hcell : w.cell? ⟨b, off + (k + 1), none⟩ = some (.int .u8 d) := by
              rw [hd]
              have := HC.out (k + 1) (by have := HL.out; simp; omega)
              rw [this]; simp
            have HD : Hid (d = r.getD k 0) := hd
            have hkr : Hid (k < r.length) := by show _ < _; have := HL.out; omega
            have hkr2 : Hid (k < (r.take (r.length - 1)).length) := by show _ < _; have := HL.out; rw [List.length_take]; omega
            clear hd
            cases hg : Tok.good d
            · have HG : Hid (Tok.good d = false) := hg
              rcases good_no hg with h | ⟨h, h'⟩ | ⟨h, h', h''⟩ | ⟨h, h', h'', h3⟩
              all_goals
                clear hg
                go_wp2
                go_ret
                refine ⟨ret_bool ?_, rfl⟩
                rw [HF.out, HB.out]
                have : (r.take (r.length - 1)).all Tok.good = false := by
                  refine all_false _ _ k hkr2.out ?_
                  rw [List.getD_eq_getElem?_getD, List.getElem?_take_of_lt (by have := hkr2.out; rw [List.length_take] at this; omega), ← List.getD_eq_getElem?_getD, ← HD.out]
                  exact HG.out
                rw [this, Bool.false_and]
            · have HG : Hid (Tok.good d = true) := hg
              obtain ⟨h, h', h'', h3⟩ := good_yes hg
              clear hg
              go_wp2
              go_round
              case rel => exact ⟨k + 1, by omega, by go_num, by show _ = _; rw [all_snoc _ _ _ hkr.out, hall.out, ← HD.out, HG.out]; rfl⟩
              case measure => simp [intOf]; omega
          · go_wp2
            go_ret
            refine ⟨ret_bool ?_, rfl⟩
            rw [HF.out, HB.out, ← HLL.out, hlq]
            have := hall.out
            rw [show r.length - 1 = k from by have := HL.out; omega, this]
            rfl
  · have hq' : (c == 34) = false := by simpa using hq
    have HF : Hid (Tok.isTok (c :: r) = Tok.isNum (c :: r)) := by show _ = _; simp [Tok.isTok, hq]
    have HNUM := hnum
    clear hrl hq hnum
    go_enter Try.func12, Try.ntmps12
    go_wp2_with fail
    refine HNUM.mono ?_
    rintro e w' ⟨rfl, rfl⟩
    go_wp2
    go_ret
    exact ⟨ret_bool (by rw [HF.out]), rfl⟩

end Go.Proofs.Qxb6000782a
