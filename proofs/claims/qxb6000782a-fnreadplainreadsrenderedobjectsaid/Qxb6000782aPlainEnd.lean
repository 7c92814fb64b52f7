/- THE WALK OF 'plainEnd': it computes 'Tok.pl' of what lies from i on. -/
import Derived.Test.Qxb6000782aScan
namespace Go.Proofs.Qxb6000782a
open Go.RowKit
set_option linter.unusedVariables false

/-- What plainEnd hands back. -/
def peEnd (t : List Int) (i : Nat) : Int := match Tok.pl t with | some k => (i : Int) + k | none => 0
def peOk (t : List Int) : Bool := (Tok.pl t).isSome

theorem ret_pe {a b : Int} {c d : Bool} (h : a = b) (h' : c = d) : Ending.returned (.tuple #[.int .i64 a, .bool c]) = .returned (.tuple #[.int .i64 b, .bool d]) := by rw [h, h']

theorem strEnd_step (r : List Int) (k : Nat) (h : k < r.length) (hq : (r.getD k 0 == 34) = false) (hg : Tok.good (r.getD k 0) = true) :
    Tok.strEnd (r.drop k) = (Tok.strEnd (r.drop (k + 1))).map (· + 1) := by
  rw [List.drop_eq_getElem_cons h]
  rw [List.getD_eq_getElem?_getD, List.getElem?_eq_getElem h] at hq hg
  simp only [Option.getD_some] at hq hg
  rw [Tok.strEnd, hq, hg]
  rfl

theorem strEnd_hit (r : List Int) (k : Nat) (h : k < r.length) (hq : (r.getD k 0 == 34) = true) : Tok.strEnd (r.drop k) = some 1 := by
  rw [List.drop_eq_getElem_cons h]
  rw [List.getD_eq_getElem?_getD, List.getElem?_eq_getElem h] at hq
  simp only [Option.getD_some] at hq
  rw [Tok.strEnd, hq]
  rfl

theorem strEnd_bad (r : List Int) (k : Nat) (h : k < r.length) (hq : (r.getD k 0 == 34) = false) (hg : Tok.good (r.getD k 0) = false) : Tok.strEnd (r.drop k) = none := by
  rw [List.drop_eq_getElem_cons h]
  rw [List.getD_eq_getElem?_getD, List.getElem?_eq_getElem h] at hq hg
  simp only [Option.getD_some] at hq hg
  rw [Tok.strEnd, hq, hg]
  rfl

theorem digs_step (r : List Int) (k : Nat) (h : k < r.length) (hg : Tok.dig (r.getD k 0) = true) : Tok.digs (r.drop k) = Tok.digs (r.drop (k + 1)) + 1 := by
  rw [List.drop_eq_getElem_cons h]
  rw [List.getD_eq_getElem?_getD, List.getElem?_eq_getElem h] at hg
  simp only [Option.getD_some] at hg
  rw [Tok.digs, hg]
  rfl

theorem digs_stop (r : List Int) (k : Nat) (h : k < r.length) (hg : Tok.dig (r.getD k 0) = false) : Tok.digs (r.drop k) = 0 := by
  rw [List.drop_eq_getElem_cons h]
  rw [List.getD_eq_getElem?_getD, List.getElem?_eq_getElem h] at hg
  simp only [Option.getD_some] at hg
  rw [Tok.digs, hg]
  rfl

theorem plainEnd_nil (a : Option Addr) (n cap : Nat) (w : World) :
    Calls Try.prog 31 #[.slice a n cap, .int .i64 n] w fun e w' => e = .returned (.tuple #[.int .i64 0, .bool false]) ∧ w = w' := by
  go_enter Try.func31, Try.ntmps31
  go_wp2
  go_ret2
  exact ⟨rfl, rfl⟩

/-- Inside a string a byte that is neither a quote nor good. -/
theorem str_no {d : Int} (hq : (d == 34) = false) (h : Tok.good d = false) : (d < 32) ∨ (32 ≤ d ∧ 126 < d) ∨ (32 ≤ d ∧ d ≤ 126 ∧ (d == 92) = true) := by
  rcases good_no h with h | h | ⟨_, _, h⟩ | ⟨h1, h2, _, h3⟩
  · exact .inl h
  · exact .inr (.inl h)
  · rw [hq] at h; cases h
  · exact .inr (.inr ⟨h1, h2, h3⟩)

set_option maxHeartbeats 400000 in
theorem plainEnd_str (b off n cap i : Nat) (r : List Int) (w : World) (hn : i + (r.length + 1) = n) (hm : n ≤ maxLen) (hc : At w b (off + i) (34 :: r)) :
    Calls Try.prog 31 #[.slice (some ⟨b, off, none⟩) n cap, .int .i64 i] w fun e w' => e = .returned (.tuple #[.int .i64 (peEnd (34 :: r) i), .bool (peOk (34 :: r))]) ∧ w = w' := by
  have h0 : w.cell? ⟨b, off + i, none⟩ = some (.int .u8 34) := hc 0 (by simp)
  unfold maxLen at hm
  have HE : Hid (Tok.pl (34 :: r) = (Tok.strEnd r).map (· + 1)) := rfl
  have HC : Hid (At w b (off + i) (34 :: r)) := hc
  have HN : Hid (i + (r.length + 1) = n) := hn
  have hin : i < n := by omega
  have hne : ((i : Int) == (n : Int)) = false := beq_eq_false_iff_ne.2 (by omega)
  clear hc hn
  go_enter Try.func31, Try.ntmps31
  go_wp2
  go_loop [6] (fun t => ∃ k : Nat, i + 1 + k ≤ n ∧ t = .int .i64 ((i : Int) + 1 + k) ∧ Hid (Tok.strEnd r = (Tok.strEnd (r.drop k)).map (· + k))) (fun t => n - (intOf t).toNat)
  case atStart => exact ⟨0, by omega, by go_num, by show _ = _; simp⟩
  case round =>
    obtain ⟨k, hk, rfl, hst⟩ := hrel
    by_cases hlt : i + 1 + k < n
    · obtain ⟨d, hd⟩ : ∃ d, d = r.getD k 0 := ⟨_, rfl⟩
      have hkr : Hid (k < r.length) := by show _ < _; have := HN.out; omega
      have hcell : w.cell? ⟨b, off + (i + 1 + k), none⟩ = some (.int .u8 d) := by
        rw [hd]
        have := HC.out (k + 1) (by have := HN.out; simp; omega)
        rw [show off + (i + 1 + k) = off + i + (k + 1) from by omega, this]; simp
      have HD : Hid (d = r.getD k 0) := hd
      clear hd
      cases hq : (d == 34)
      · cases hg : Tok.good d
        · have HG : Hid (Tok.good d = false) := hg
          have HQ : Hid ((d == 34) = false) := hq
          rcases str_no hq hg with h | ⟨h, h'⟩ | ⟨h, h', h''⟩
          all_goals
            clear hg
            go_wp2
            go_ret2
            have e0 : Tok.pl (34 :: r) = none := by
              rw [HE.out, hst.out, strEnd_bad r k hkr.out (by rw [← HD.out]; exact HQ.out) (by rw [← HD.out]; exact HG.out)]; rfl
            exact ⟨ret_pe (by simp [peEnd, e0]) (by simp [peOk, e0]), rfl⟩
        · have HG : Hid (Tok.good d = true) := hg
          have HQ : Hid ((d == 34) = false) := hq
          obtain ⟨h, h', _, h3⟩ := good_yes hg
          clear hg
          go_wp2
          go_round
          case rel => exact ⟨k + 1, by omega, by go_num, by show _ = _; rw [hst.out, strEnd_step r k hkr.out (by rw [← HD.out]; exact HQ.out) (by rw [← HD.out]; exact HG.out), Option.map_map]; congr 1; funext x; simp; omega⟩
          case measure => simp [intOf]; omega
      · have HQ : Hid ((d == 34) = true) := hq
        go_wp2
        go_ret2
        have e0 : Tok.pl (34 :: r) = some (k + 2) := by
          rw [HE.out, hst.out, strEnd_hit r k hkr.out (by rw [← HD.out]; exact HQ.out)]; simp; omega
        exact ⟨ret_pe (by simp only [peEnd, e0]; omega) (by simp [peOk, e0]), rfl⟩
    · go_wp2
      go_ret2
      have e0 : Tok.pl (34 :: r) = none := by
        rw [HE.out, hst.out, List.drop_eq_nil_of_le (by have := HN.out; omega)]; rfl
      exact ⟨ret_pe (by simp [peEnd, e0]) (by simp [peOk, e0]), rfl⟩

theorem plainEnd_zero (b off n cap i : Nat) (r : List Int) (w : World) (hn : i + (r.length + 1) = n) (hm : n ≤ maxLen) (hc : At w b (off + i) (48 :: r)) :
    Calls Try.prog 31 #[.slice (some ⟨b, off, none⟩) n cap, .int .i64 i] w fun e w' => e = .returned (.tuple #[.int .i64 (peEnd (48 :: r) i), .bool (peOk (48 :: r))]) ∧ w = w' := by
  have h0 : w.cell? ⟨b, off + i, none⟩ = some (.int .u8 48) := hc 0 (by simp)
  unfold maxLen at hm
  have hin : i < n := by omega
  have hne : ((i : Int) == (n : Int)) = false := beq_eq_false_iff_ne.2 (by omega)
  clear hc hn
  go_enter Try.func31, Try.ntmps31
  go_wp2
  go_ret2
  exact ⟨rfl, rfl⟩

set_option maxHeartbeats 400000 in
theorem plainEnd_dig (b off n cap i : Nat) (c : Int) (r : List Int) (w : World) (hq : (c == 34) = false) (hz : (c == 48) = false) (hd : Tok.dig c = true) (hn : i + (r.length + 1) = n) (hm : n ≤ maxLen) (hc : At w b (off + i) (c :: r)) :
    Calls Try.prog 31 #[.slice (some ⟨b, off, none⟩) n cap, .int .i64 i] w fun e w' => e = .returned (.tuple #[.int .i64 (peEnd (c :: r) i), .bool (peOk (c :: r))]) ∧ w = w' := by
  have h0 : w.cell? ⟨b, off + i, none⟩ = some (.int .u8 c) := hc 0 (by simp)
  unfold maxLen at hm
  have HE : Hid (Tok.pl (c :: r) = some (Tok.digs r + 1)) := by show _ = _; simp [Tok.pl, hq, hz, hd]
  have HC : Hid (At w b (off + i) (c :: r)) := hc
  have HN : Hid (i + (r.length + 1) = n) := hn
  have hin : i < n := by omega
  have hne : ((i : Int) == (n : Int)) = false := beq_eq_false_iff_ne.2 (by omega)
  clear hc hn
  go_enter Try.func31, Try.ntmps31
  go_wp2_with (go_at_call 42; refine (isDigit_any _ _).mono ?_; rintro e w' ⟨rfl, rfl⟩)
  go_loop [8] (fun t => ∃ k : Nat, i + 1 + k ≤ n ∧ t = .int .i64 ((i : Int) + 1 + k) ∧ Hid (Tok.digs r = Tok.digs (r.drop k) + k)) (fun t => n - (intOf t).toNat)
  case atStart => exact ⟨0, by omega, by go_num, by show _ = _; simp⟩
  case round =>
    obtain ⟨k, hk, rfl, hst⟩ := hrel
    by_cases hlt : i + 1 + k < n
    · obtain ⟨d, hd⟩ : ∃ d, d = r.getD k 0 := ⟨_, rfl⟩
      have hkr : Hid (k < r.length) := by show _ < _; have := HN.out; omega
      have hcell : w.cell? ⟨b, off + (i + 1 + k), none⟩ = some (.int .u8 d) := by
        rw [hd]
        have := HC.out (k + 1) (by have := HN.out; simp; omega)
        rw [show off + (i + 1 + k) = off + i + (k + 1) from by omega, this]; simp
      have HD : Hid (d = r.getD k 0) := hd
      clear hd
      cases hg : Tok.dig d
      · go_wp2_with (go_at_call 42; refine (isDigit_any _ _).mono ?_; rintro e w' ⟨rfl, rfl⟩)
        go_ret2
        have e0 : Tok.pl (c :: r) = some (k + 1) := by
          rw [HE.out, hst.out, digs_stop r k hkr.out (by rw [← HD.out]; exact hg)]; simp
        exact ⟨ret_pe (by simp only [peEnd, e0]; omega) (by simp [peOk, e0]), rfl⟩
      · go_wp2_with (go_at_call 42; refine (isDigit_any _ _).mono ?_; rintro e w' ⟨rfl, rfl⟩)
        go_round
        case rel => exact ⟨k + 1, by omega, by go_num, by show _ = _; rw [hst.out, digs_step r k hkr.out (by rw [← HD.out]; exact hg)]; omega⟩
        case measure => simp [intOf]; omega
    · go_wp2
      go_ret2
      have e0 : Tok.pl (c :: r) = some (k + 1) := by
        rw [HE.out, hst.out, List.drop_eq_nil_of_le (by have := HN.out; omega)]; simp [Tok.digs]
      exact ⟨ret_pe (by simp only [peEnd, e0]; omega) (by simp [peOk, e0]), rfl⟩

theorem plainEnd_other (b off n cap i : Nat) (c : Int) (r : List Int) (w : World) (hq : (c == 34) = false) (hz : (c == 48) = false) (hd : Tok.dig c = false) (hn : i + (r.length + 1) = n) (hm : n ≤ maxLen) (hc : At w b (off + i) (c :: r)) :
    Calls Try.prog 31 #[.slice (some ⟨b, off, none⟩) n cap, .int .i64 i] w fun e w' => e = .returned (.tuple #[.int .i64 (peEnd (c :: r) i), .bool (peOk (c :: r))]) ∧ w = w' := by
  have h0 : w.cell? ⟨b, off + i, none⟩ = some (.int .u8 c) := hc 0 (by simp)
  unfold maxLen at hm
  have e0 : Tok.pl (c :: r) = none := by simp [Tok.pl, hq, hz, hd]
  have e1 : peEnd (c :: r) i = 0 := by simp [peEnd, e0]
  have e2 : peOk (c :: r) = false := by simp [peOk, e0]
  rw [e1, e2]
  have hin : i < n := by omega
  have hne : ((i : Int) == (n : Int)) = false := beq_eq_false_iff_ne.2 (by omega)
  clear hc hn e0 e1 e2
  go_enter Try.func31, Try.ntmps31
  go_wp2_with (go_at_call 42; refine (isDigit_any _ _).mono ?_; rintro e w' ⟨rfl, rfl⟩)
  go_ret2
  exact ⟨rfl, rfl⟩

/-- plainEnd, at every place of the text. -/
theorem plainEnd_any (b off n cap i : Nat) (t : List Int) (w : World) (hn : i + t.length = n) (hm : n ≤ maxLen) (hc : At w b (off + i) t) :
    Calls Try.prog 31 #[.slice (some ⟨b, off, none⟩) n cap, .int .i64 i] w fun e w' => e = .returned (.tuple #[.int .i64 (peEnd t i), .bool (peOk t)]) ∧ w = w' := by
  match t, hn, hc with
  | [], hn, hc =>
    have : i = n := by simpa using hn
    subst this
    exact plainEnd_nil (some ⟨b, off, none⟩) i cap w
  | c :: r, hn, hc =>
    have hn' : i + (r.length + 1) = n := by simpa using hn
    cases hq : (c == 34)
    · cases hz : (c == 48)
      · cases hd : Tok.dig c
        · exact plainEnd_other b off n cap i c r w hq hz hd hn' hm hc
        · exact plainEnd_dig b off n cap i c r w hq hz hd hn' hm hc
      · have : c = 48 := by simpa using hz
        subst this
        exact plainEnd_zero b off n cap i r w hn' hm hc
    · have : c = 34 := by simpa using hq
      subst this
      exact plainEnd_str b off n cap i r w hn' hm hc

end Go.Proofs.Qxb6000782a
