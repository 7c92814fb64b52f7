/- THE WALK OF 'zzToken', and the plain law of the tokens. -/
import Derived.Test.Qxb6000782aUint
namespace Go.Proofs.Qxb6000782a
open Go.RowKit
set_option linter.unusedVariables false
set_option linter.unusedSimpArgs false

/-- A rendered token: a plain string or a plain number. -/
def IsT (t : List Int) : Prop := (∃ s, t = 34 :: (s ++ [34]) ∧ ∀ c ∈ s, Tok.good c = true) ∨ Tok.isNum t = true

def tokS (s : ByteArray) : List Int := if Tok.isNum (pbs s) = true then pbs s else 34 :: (pbs s ++ [34])
def tokOf (ss : List ByteArray) (us : List Nat) (j : Nat) : List Int :=
  if j < ss.length then tokS (ss.getD j .empty) else if j - ss.length < us.length then digits (us.getD (j - ss.length) 0) else [48]

theorem tokS_isT (s : ByteArray) : IsT (tokS s) := by
  unfold tokS
  split
  · rename_i h; exact .inr h
  · exact .inl ⟨pbs s, rfl, pbs_good s⟩

theorem isNum_cons (c : Int) (r : List Int) : Tok.isNum (c :: r) = if (c == 48) = true then r.isEmpty else (c :: r).all Tok.dig := rfl

theorem digits_isNum (u : Nat) (hu : u < 18446744073709551616) : Tok.isNum (digits u) = true := by
  obtain ⟨h1, d, r, h2, h3⟩ := du_digs 19 u [] (by simp) (by omega) (.inr rfl)
  unfold digits
  rw [h2] at h1 ⊢
  rw [isNum_cons]
  split
  · rename_i h
    rw [h3 (beq_iff_eq.1 h)]
    rfl
  · exact List.all_eq_true.2 h1

theorem tokOf_isT (ss : List ByteArray) (us : List Nat) (j : Nat) (hu : ∀ u ∈ us, u < 18446744073709551616) : IsT (tokOf ss us j) := by
  unfold tokOf
  split
  · exact tokS_isT _
  · split
    · rename_i h1 h2
      refine .inr (digits_isNum _ ?_)
      rw [List.getD_eq_getElem?_getD, List.getElem?_eq_getElem h2]
      exact hu _ (List.getElem_mem h2)
    · exact .inr rfl

theorem tokOf_len (ss : List ByteArray) (us : List Nat) (j B : Nat) (hB : 20 ≤ B) (h : ∀ s ∈ ss, s.size + 2 ≤ B) : (tokOf ss us j).length ≤ B := by
  unfold tokOf
  split
  · rename_i hj
    rw [List.getD_eq_getElem?_getD, List.getElem?_eq_getElem hj]
    have := h _ (List.getElem_mem hj)
    simp only [Option.getD_some]
    unfold tokS
    split <;> simp [pbs_len] <;> omega
  · split
    · have := du_len 20 (us.getD (j - ss.length) 0) []
      unfold digits
      simp at this; simp; omega
    · simp; omega

theorem strEnd_good : ∀ (s r : List Int), (∀ c ∈ s, Tok.good c = true) → Tok.strEnd (s ++ 34 :: r) = some (s.length + 1) := by
  intro s
  induction s with
  | nil => intro r _; simp [Tok.strEnd]
  | cons c s ih =>
    intro r h
    have hc := h c (by simp)
    have hne : (c == 34) = false := by
      cases e : (c == 34)
      · rfl
      · rw [beq_iff_eq.1 e] at hc; simp [Tok.good] at hc
    rw [List.cons_append, Tok.strEnd, hne, if_neg (by simp), if_pos hc, ih r (fun d hd => h d (by simp [hd]))]
    rfl

theorem digs_app : ∀ (s r : List Int), s.all Tok.dig = true → (r = [] ∨ ∃ c r', r = c :: r' ∧ Tok.dig c = false) → Tok.digs (s ++ r) = s.length := by
  intro s
  induction s with
  | nil =>
    intro r _ hr
    rcases hr with rfl | ⟨c, r', rfl, hc⟩
    · rfl
    · simp [Tok.digs, hc]
  | cons c s ih =>
    intro r h hr
    rw [List.all_cons, Bool.and_eq_true] at h
    rw [List.cons_append, Tok.digs, if_pos h.1, ih r h.2 hr]
    rfl

/-- THE PLAIN LAW: a rendered token is read whole. -/
theorem pl_token (t r : List Int) (h : IsT t) (hr : r = [] ∨ ∃ c r', r = c :: r' ∧ Tok.dig c = false) : Tok.pl (t ++ r) = some t.length := by
  rcases h with ⟨s, rfl, hs⟩ | h
  · rw [List.cons_append, Tok.pl, List.append_assoc, List.singleton_append, strEnd_good s r hs]
    simp
  · match t, h with
    | c :: t, h =>
      rw [isNum_cons] at h
      rw [List.cons_append, Tok.pl]
      split at h
      · rename_i hc
        have hc' := beq_iff_eq.1 hc
        subst hc'
        rw [List.isEmpty_iff.1 h]
        simp
      · rename_i hc
        rw [List.all_cons, Bool.and_eq_true] at h
        have h34 : (c == 34) = false := by
          cases e : (c == 34)
          · rfl
          · rw [beq_iff_eq.1 e] at h; simp [Tok.dig] at h
        rw [h34, if_neg (by simp), if_neg hc, if_pos h.1, digs_app t r h.2 hr]
        rfl

theorem isNum_dig {t : List Int} (h : Tok.isNum t = true) : ∀ c ∈ t, Tok.dig c = true := by
  match t, h with
  | c :: t, h =>
    rw [isNum_cons] at h
    split at h
    · rename_i hc
      rw [List.isEmpty_iff.1 h, beq_iff_eq.1 hc]
      simp [Tok.dig]
    · exact List.all_eq_true.1 h

theorem IsT.byt {t : List Int} (h : IsT t) : Byt t := by
  intro c hc
  rcases h with ⟨s, rfl, hs⟩ | h
  · rcases List.mem_cons.1 hc with rfl | hc
    · omega
    · rcases List.mem_append.1 hc with hc | hc
      · exact good_byt hs c hc
      · simp at hc; omega
  · have := isNum_dig h c hc
    simp [Tok.dig] at this
    omega

/-- A slice of values in one cell each. -/
def HasV (w : World) (a : Option Addr) (xs : List Value) : Prop := xs = [] ∨ ∃ b off, a = some ⟨b, off, none⟩ ∧ ∀ j v, xs[j]? = some v → w.cell? ⟨b, off + j, none⟩ = some v

theorem HasV.below {w wx : World} {a : Option Addr} {xs : List Value} (h : HasV w a xs) (hb : Below w.heap.size w wx) : HasV wx a xs := by
  rcases h with h | ⟨b, off, e, h⟩
  · exact .inl h
  · exact .inr ⟨b, off, e, fun j v hj => cell_later hb (h j v hj)⟩

theorem Row.keep {w w' : World} {v : Value} {zs : List Int} (h : Row w v zs) (k : ∀ b, v.ownBlock = some b → w'.heap[b]? = w.heap[b]?) : Row w' v zs := by
  refine ⟨h.1, ?_⟩
  rcases h.2 with h | ⟨g, cap, cur, rfl, h1, h2, h3⟩
  · exact .inl h
  · exact .inr ⟨g, cap, cur, rfl, h1, by rw [k g rfl]; exact h2, h3⟩

theorem Row.push {w w' : World} {v u u' : Value} {zs : List Int} (h : Row w v zs) (p : Push w u w' u') (hne : ∀ b, v.ownBlock = some b → u.ownBlock ≠ some b) : Row w' v zs := by
  refine h.keep fun b hb => ?_
  refine p.grown.block b ?_ (fun e => hne b hb e.symm)
  rcases h.len with ⟨rfl, _⟩ | ⟨g, cap, rfl, _, hg⟩
  · cases hb
  · cases hb; exact hg

theorem isPlainNumber_at (b off cap n : Nat) (zs : List Int) (w : World) (hn : zs.length = n) (hm : n ≤ maxLen) (hc : At w b off zs) :
    Calls Try.prog 32 #[.slice (some ⟨b, off, none⟩) n cap] w fun e w' => e = .returned (.bool (Tok.isNum zs)) ∧ w = w' := by
  match zs, hn, hc with
  | [], hn, hc => subst hn; exact isPlainNumber_none _ cap w
  | c :: r, hn, hc => subst hn; exact isPlainNumber_some b off cap c r w hm hc

theorem At.cells {w : World} {b off : Nat} {zs : List Int} (h : At w b off zs) : ∀ j, j < zs.length → w.cell? ((⟨b, off, none⟩ : Addr).add j) = some (.int .u8 (zs.getD j 0)) := by
  intro j hj; rw [addr_add]; exact h j hj

theorem Row.at {w : World} {g n cap : Nat} {zs : List Int} (h : Row w (.slice (some ⟨g, 0, none⟩) n cap) zs) : At w g 0 zs := by
  rcases h.len with ⟨h, _⟩ | ⟨g', cap', h, hat, _⟩
  · cases h
  · simp only [Value.slice.injEq, Option.some.injEq, Addr.mk.injEq, and_true, true_and] at h
    rw [h.1]; exact hat

theorem At.keep {w w' : World} {b off : Nat} {zs : List Int} (h : At w b off zs) (k : w'.heap[b]? = w.heap[b]?) : At w' b off zs := by
  intro j hj
  rw [World.cell?_of_block (w := w) (w' := w') (a := ⟨b, off + j, none⟩) k]
  exact h j hj

theorem Row.lt_size {w : World} {g n cap : Nat} {zs : List Int} (h : Row w (.slice (some ⟨g, 0, none⟩) n cap) zs) : g < w.heap.size := by
  rcases h.len with ⟨h, _⟩ | ⟨g', cap', h, _, hat⟩
  · cases h
  · simp only [Value.slice.injEq, Option.some.injEq, Addr.mk.injEq, and_true, true_and] at h
    rw [h.1]; exact hat

/-- The case of a string. -/
theorem zzToken_str (j : Nat) (b off n1 c1 : Nat) (v2 : Value) (s : ByteArray) (w : World) (hj : j < n1) (h1 : n1 ≤ maxLen) (hm : s.size ≤ 1099511627776)
    (hcell : w.cell? ⟨b, off + j, none⟩ = some (.string s)) :
    Calls Try.prog 25 #[.int .i64 j, .slice (some ⟨b, off, none⟩) n1 c1, v2] w (Fresh w (tokS s)) := by
  unfold maxLen at h1
  obtain ⟨i0, hi, hz0, hz1, hz2⟩ := info_parts Try.info5
  have HP := zzPlainBytes_any s w hm
  have HP' : Hid _ := HP
  clear HP
  go_enter Try.func25, Try.ntmps25
  go_wp2_with fail
  refine Calls.mono HP'.out ?_
  rintro e w1 ⟨rfl, hrow, hbel⟩
  have HR : Hid (Row w1 (newRow w s.size) (pbs s)) := hrow
  have HB : Hid (Below w.heap.size w w1) := hbel
  have HA : Hid (At w1 w.heap.size 0 (pbs s)) := Row.at hrow
  clear hrow hbel HP'
  go_wp2_with fail
  refine (isPlainNumber_at w.heap.size 0 s.size s.size (pbs s) w1 (pbs_len s) (by unfold maxLen; omega) HA.out).mono ?_
  rintro e w1 ⟨rfl, rfl⟩
  have hnum : Tok.isNum (pbs s) = true ∨ Tok.isNum (pbs s) = false := by cases Tok.isNum (pbs s) <;> simp
  rcases hnum with hnum | hnum
  · have HT : Hid (tokS s = pbs s) := by show _ = _; unfold tokS; rw [if_pos hnum]
    rw [hnum]
    clear hnum
    go_wp2
    go_ret
    refine ⟨_, rfl, by rw [HT.out]; exact HR.out, HB.out, ?_⟩
    intro b hb; cases hb; exact Nat.le_refl _
  · have HT : Hid (tokS s = 34 :: (pbs s ++ [34])) := by show _ = _; unfold tokS; rw [if_neg (by rw [hnum]; simp)]
    rw [hnum]
    clear hnum
    obtain ⟨zs, hzs⟩ : ∃ zs, zs = pbs s := ⟨_, rfl⟩
    have HL : Hid (zs.length = s.size) := by show _ = _; rw [hzs, pbs_len]
    rw [← hzs] at HT HR HA
    clear hzs
    have HLT : Hid (w.heap.size < w1.heap.size) := Row.lt_size HR.out
    go_wp2_with (first
      | (at_make
         refine wpList_make_own _ rfl _ _ 22 rfl 0 5 i0 (.int .u8 0) 1 Try.underlying22 hi hz0 hz1 .i64 .i64 _ (s.size + 2) rfl rfl (by omega) (by rw [hz2]; omega) (by unfold maxLen; omega) (Nat.zero_le _) ?_
         intro w2 hown hgrow
         obtain ⟨vm, hvm⟩ : ∃ vm, vm = Value.slice (some ⟨w1.heap.size, 0, none⟩) 0 (s.size + 2) := ⟨_, rfl⟩
         rw [← hvm] at hown ⊢
         have HO : Hid (Row w2 vm []) := hown
         have HG : Hid (w1.grownBy w2 none) := hgrow
         have HV : Hid (vm.ownBlock = some w1.heap.size) := congrArg Value.ownBlock hvm
         clear hvm hown hgrow hi hz0 hz1 hz2)
      | (at_builtin
         refine wpList_append_mine _ rfl _ _ rfl vm [] [34] rfl (HO.out.alloc _) ⟨w2.heap.size, 0, none⟩ 1 1 rfl rfl (lit_cells w2 [34] 5) (by decide) ?_
         intro v3 w3 hrow hpush
         have H1 : Hid (Row w3 v3 [34]) := hrow
         have H2 : Hid (Push w2 vm w3 v3) := hpush.alloc _
         have H3 : Hid (At w3 w.heap.size 0 zs) := (HA.out.keep (HG.out.block _ HLT.out (by simp))).keep (H2.out.grown.block _ (Nat.lt_of_lt_of_le HLT.out HG.out.size) (by rw [HV.out]; simp; exact Nat.ne_of_lt HLT.out))
         clear hrow hpush)
      | (at_builtin
         refine wpList_append_mine _ rfl _ _ rfl v3 [34] zs rfl H1.out ⟨w.heap.size, 0, none⟩ s.size s.size rfl HL.out H3.out.cells (by simp; omega) ?_
         intro v4 w4 hrow hpush
         have H4 : Hid (Row w4 v4 ([34] ++ zs)) := hrow
         have H5 : Hid (Push w2 vm w4 v4) := H2.out.trans hpush
         have HL4 : Hid (([34] ++ zs).length = s.size + 1) := (by show _ = _; rw [List.length_append, HL.out]; simp; omega)
         clear hrow hpush)
      | (at_builtin
         refine wpList_append_mine _ rfl _ _ rfl v4 ([34] ++ zs) [34] rfl (H4.out.alloc _) ⟨w4.heap.size, 0, none⟩ 1 1 rfl rfl (lit_cells w4 [34] 5) (by rw [HL4.out]; omega) ?_
         intro v5 w5 hrow hpush
         have H6 : Hid (Row w5 v5 ([34] ++ zs ++ [34])) := hrow
         have H7 : Hid (Push w2 vm w5 v5) := H5.out.trans (hpush.alloc _)
         clear hrow hpush))
    go_ret
    have hb2 : Below w.heap.size w w2 := HB.out.trans ((Below.refl _ _).grown HG.out (Nat.le_of_lt HLT.out) (by simp))
    have hle : w.heap.size ≤ w2.heap.size := Nat.le_trans (Nat.le_of_lt HLT.out) HG.out.size
    refine ⟨v5, rfl, by rw [HT.out]; exact H6.out, hb2.trans (H7.out.below hle ?_), ?_⟩
    · intro b hb; rw [HV.out] at hb; cases hb; exact Nat.le_of_lt HLT.out
    · intro b hb
      rcases H7.out.moved with h | ⟨b', h, hb'⟩
      · rw [hb, HV.out] at h; cases h; exact Nat.le_of_lt HLT.out
      · rw [hb] at h; cases h; exact Nat.le_trans hle hb'

theorem zzToken_any (j : Nat) (a1 a2 : Option Addr) (n1 c1 n2 c2 : Nat) (ss : List ByteArray) (us : List Nat) (w : World) (hj : j ≤ 1099511627776) (h1 : ss.length = n1) (h2 : us.length = n2) (m1 : n1 ≤ maxLen) (m2 : n2 ≤ maxLen)
    (hs : ∀ s ∈ ss, s.size ≤ 1099511627776) (hu : ∀ u ∈ us, u < 18446744073709551616) (hv : HasV w a1 (ss.map Value.string)) (hn : HasV w a2 (us.map fun u : Nat => Value.int .u64 (u : Int))) :
    Calls Try.prog 25 #[.int .i64 j, .slice a1 n1 c1, .slice a2 n2 c2] w (Fresh w (tokOf ss us j)) := by
  by_cases hlt : j < n1
  · rcases hv with h | ⟨b, off, rfl, hv⟩
    · have : ss = [] := by simpa using h
      rw [this] at h1; simp at h1; omega
    · have e : tokOf ss us j = tokS (ss.getD j .empty) := by unfold tokOf; rw [if_pos (by omega)]
      rw [e]
      have hj' : j < ss.length := by omega
      have e2 : ss[j]? = some (ss.getD j .empty) := by rw [List.getD_eq_getElem?_getD, List.getElem?_eq_getElem hj']; rfl
      refine zzToken_str j b off n1 c1 _ _ w hlt m1 (hs _ ?_) (hv j _ (by rw [List.getElem?_map, e2]; rfl))
      exact List.mem_of_getElem? e2
  · unfold maxLen at m1 m2
    by_cases hlt2 : j - n1 < n2
    · rcases hn with h | ⟨b, off, rfl, hn⟩
      · have : us = [] := by simpa using h
        rw [this] at h2; simp at h2; omega
      · obtain ⟨k, rfl⟩ : ∃ k, j = n1 + k := ⟨j - n1, by omega⟩
        have hk : k < n2 := by omega
        obtain ⟨u, hu2⟩ : ∃ u, us[k]? = some u := ⟨_, List.getElem?_eq_getElem (by omega)⟩
        have hcell : w.cell? ⟨b, off + k, none⟩ = some (.int .u64 u) := hn k _ (by rw [List.getElem?_map, hu2]; rfl)
        have hub := hu u (List.mem_of_getElem? hu2)
        have HT : Hid (tokOf ss us (n1 + k) = digits u) := by
          show _ = _
          unfold tokOf; rw [if_neg (by omega), h1, Nat.add_sub_cancel_left, if_pos (by omega), List.getD_eq_getElem?_getD, hu2]; rfl
        have HC := zzAppendUint_any u w hub
        have HC' : Hid _ := HC
        have hge : (n1 : Int) ≤ ((n1 + k : Nat) : Int) := by omega
        have hsub : ((n1 + k : Nat) : Int) - (n1 : Int) = (k : Int) := by omega
        clear HC hu hs hv hn hu2 hlt hlt2 h1 h2 hub
        go_enter Try.func25, Try.ntmps25
        go_wp2_with fail
        refine Calls.mono HC'.out ?_
        rintro e w1 ⟨v', rfl, hf⟩
        have HF : Hid _ := hf
        clear hf HC'
        go_wp2
        go_ret
        exact ⟨v', rfl, by rw [HT.out]; exact HF.out.1, HF.out.2⟩
    · have HT : Hid (tokOf ss us j = [48]) := by
        show _ = _
        unfold tokOf; rw [if_neg (by omega), if_neg (by omega)]
      have hge : (n1 : Int) ≤ (j : Int) := by omega
      have hge2 : (n2 : Int) ≤ (j : Int) - (n1 : Int) := by omega
      have HR := row_lit w [48] (by decide)
      have HR' : Hid _ := HR
      clear HR hu hs hv hn hlt hlt2 h1 h2
      go_enter Try.func25, Try.ntmps25
      go_wp2
      go_ret
      refine ⟨_, rfl, by rw [HT.out]; exact HR'.out, (Below.refl _ _).alloc (Nat.le_refl _) _, ?_⟩
      intro b hb; cases hb; exact Nat.le_refl _

end Go.Proofs.Qxb6000782a
