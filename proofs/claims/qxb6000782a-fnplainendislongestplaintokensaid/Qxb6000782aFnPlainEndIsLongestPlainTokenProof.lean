/- 'Rows.FnPlainEndIsLongestPlainTokenSaid' PROVED: the walk of the law over the contracts; the row's step is the given shell's. -/
import Derived.Test.Qxb6000782aRows
import Derived.Test.Qxb6000782aPlainEnd
import Derived.Test.Qxb6000782aClone
import Derived.WalkKit
import Derived.ProofKit
import Derived.OpenShut
import Derived.ShutString
import Derived.ChangeOld
import Derived.Below
namespace Go.Proofs.Qxb6000782a.fnPlainEndIsLongestPlainToken
open Go.ChangeShapes Go.WideShapes Go.ChangeAt Go.RowKit
open Go.ChangeMaps (open_string shut_string)
set_option linter.unusedVariables false

theorem own_at {w : World} {base g n cap : Nat} {zs : List Int} (h : w.ownsRow base 5 1 (.slice (some ⟨g, 0, none⟩) n cap) n (zs.map (Value.int .u8))) (i m : Nat) : At w g i ((zs.drop i).take m) := by
  have hl : zs.length = n := by simpa using h.1
  intro j hj
  have hj' : i + j < n := by simp at hj; omega
  have := h.cellAt (i + j) (by omega)
  rw [this]
  simp only [List.getElem?_map]
  rw [List.getElem?_eq_getElem (by omega)]
  simp only [Option.map_some]
  rw [List.getD_eq_getElem?_getD, List.getElem?_take_of_lt (by simp at hj; omega), List.getElem?_drop, List.getElem?_eq_getElem (by omega)]
  rfl

theorem zzBytes_any (a : Option Addr) (n cap : Nat) (i : Int) (w : World) (hm : n ≤ maxLen) :
    Calls Try.prog 9 #[.slice a n cap, .int .i64 i] w fun e w' => e = .returned (.bool (decide (n ≤ 1048576))) ∧ w = w' := by
  unfold maxLen at hm
  by_cases h : n ≤ 1048576
  all_goals
    go_enter Try.func9, Try.ntmps9
    go_wp2
    go_ret
    exact ⟨ret_bool (by simp [h]), rfl⟩

theorem zzPlainEnd_nil (a : Option Addr) (n cap : Nat) (w : World) :
    Calls Try.prog 11 #[.slice a n cap, .int .i64 n] w fun e w' => e = .returned (.tuple #[.int .i64 0, .bool false]) ∧ w = w' := by
  go_enter Try.func11, Try.ntmps11
  go_wp2_with (go_at_call 31; refine (plainEnd_nil _ _ _ _).mono ?_; rintro e w' ⟨rfl, rfl⟩)
  go_ret2
  exact ⟨rfl, rfl⟩

theorem zzPlainEnd_any (b n cap i : Nat) (t : List Int) (w : World) (hn : i + t.length = n) (hm : n ≤ maxLen) (hc : At w b i t) :
    Calls Try.prog 11 #[.slice (some ⟨b, 0, none⟩) n cap, .int .i64 i] w fun e w' => e = .returned (.tuple #[.int .i64 (peEnd t i), .bool (peOk t)]) ∧ w = w' := by
  have H := plainEnd_any b 0 n cap i t w hn hm (by rw [Nat.zero_add]; exact hc)
  generalize peEnd t i = p at *
  generalize peOk t = q at *
  clear hc hn
  go_enter Try.func11, Try.ntmps11
  go_wp2_with fail
  refine H.mono ?_
  rintro e w' ⟨rfl, rfl⟩
  go_wp2
  go_ret2
  exact ⟨rfl, rfl⟩

theorem isPlainToken_list (b off cap n : Nat) (l : List Int) (w : World) (hl : l.length = n) (h0 : 0 < n) (hm : n ≤ maxLen) (hc : At w b off l) :
    Calls Try.prog 12 #[.slice (some ⟨b, off, none⟩) n cap] w fun e w' => e = .returned (.bool (Tok.isTok l)) ∧ w = w' := by
  match l, hl, hc with
  | [], hl, _ => simp at hl; omega
  | c :: r, hl, hc => subst hl; exact isPlainToken_some b off cap c r w hm hc

/-- What the law asks of the answer, once the longest token is known. -/
theorem found {t : List Int} {m : Nat} (h1 : 1 ≤ m) (h2 : m ≤ t.length) (ht : Tok.isTok (t.take m) = true) (hn : ∀ e, m < e → e ≤ t.length → Tok.isTok (t.take e) = false) : Tok.pl t = some m := by
  cases hp : Tok.pl t with
  | none => rw [Tok.pl_none t hp m h2] at ht; cases ht
  | some k =>
    obtain ⟨a, b, c, d⟩ := Tok.pl_some t k hp
    rcases Nat.lt_trichotomy k m with h | h | h
    · rw [d m h h2] at ht; cases ht
    · rw [h]
    · rw [hn k h b] at c; cases c

theorem notFound {t : List Int} (hn : ∀ e, 0 < e → e ≤ t.length → Tok.isTok (t.take e) = false) : Tok.pl t = none := by
  cases hp : Tok.pl t with
  | none => rfl
  | some k =>
    obtain ⟨a, b, c, d⟩ := Tok.pl_some t k hp
    rw [hn k (by omega) b] at c; cases c

/-- WHAT THE WALK IS TOLD OF A SLICE OF INTEGERS THAT CAME IN: it is nil; or it leads to a row of 'cap' cells, the numbers 'zs' (the first 'len' are its elements, the rest its spare room), each fitting its kind. -/
def IsRow (k : IntKind) (w : World) (a : Option Addr) (len cap : Nat) (zs : List Int) : Prop :=
  (a = none ∧ len = 0 ∧ cap = 0 ∧ zs = []) ∨
  ∃ x, a = some x ∧ len ≤ cap ∧ cap ≤ maxLen ∧ zs.length = cap ∧ (∀ i, i < zs.length → w.cell? (x.add i) = some (.int k (zs.getD i 0))) ∧ ∀ n ∈ zs, (Lit.int k n).wf = true

/-- The inputs on which the law says nothing: too long, or an index outside. -/
theorem walk_out (a : Option Addr) (n cap : Nat) (i : Int) (w : World) (hm : n ≤ maxLen) (h : 1048576 < n ∨ (n ≤ 1048576 ∧ 4096 < n) ∨ (n ≤ 4096 ∧ i < 0) ∨ (n ≤ 4096 ∧ 0 ≤ i ∧ (n : Int) < i)) :
    Calls Try.prog 3 #[.slice a n cap, .int .i64 i] w fun e w' => e = .returned (.bool true) ∧ Below w.heap.size w w' := by
  have HM := hm
  unfold maxLen at hm
  rcases h with h | ⟨h, h'⟩ | ⟨h, h'⟩ | ⟨h, h', h''⟩
  · have hd : decide (n ≤ 1048576) = false := decide_eq_false (by omega)
    go_enter Try.func3, Try.ntmps3
    go_wp2_with (go_at_call 9; refine (zzBytes_any _ _ _ _ _ HM).mono ?_; rintro e w' ⟨rfl, rfl⟩)
    go_ret
    exact ⟨rfl, Below.refl _ _⟩
  all_goals
    have hd : decide (n ≤ 1048576) = true := decide_eq_true (by omega)
    go_enter Try.func3, Try.ntmps3
    go_wp2_with (go_at_call 9; refine (zzBytes_any _ _ _ _ _ HM).mono ?_; rintro e w' ⟨rfl, rfl⟩)
    go_ret
    exact ⟨rfl, Below.refl _ _⟩

/-- No byte at all: nil. -/
theorem walk_nil (w : World) : Calls Try.prog 3 #[.slice none 0 0, .int .i64 0] w fun e w' => e = .returned (.bool true) ∧ Below w.heap.size w w' := by
  have hp := zzPlainEnd_nil none 0 0 w
  have HP := hp
  go_enter Try.func3, Try.ntmps3
  go_wp2_with (first | (go_at_call 9; refine (zzBytes_any _ _ _ _ _ (Nat.zero_le _)).mono ?_; rintro e w' ⟨rfl, rfl⟩) | (go_at_call 10; refine (zzClone_nil _).mono ?_; rintro e w' ⟨rfl, rfl⟩) | (go_at_call 11; refine HP.mono ?_; rintro e w' ⟨rfl, rfl⟩))
  refine wp_loop_rounds 1 ?_
  rw [rounds_succ]
  go_wp2
  go_ret
  exact ⟨rfl, Below.refl _ _⟩

/-- No byte at all: a slice that is not nil. -/
theorem walk_empty (x : Addr) (cap : Nat) (w : World) : Calls Try.prog 3 #[.slice (some x) 0 cap, .int .i64 0] w fun e w' => e = .returned (.bool true) ∧ Below w.heap.size w w' := by
  have HP : ∀ w1 : World, Calls Try.prog 11 #[newRow w 0, .int .i64 0] w1 fun e w' => e = .returned (.tuple #[.int .i64 0, .bool false]) ∧ w1 = w' := fun w1 => zzPlainEnd_nil _ 0 0 w1
  have HPH : Hid _ := HP
  clear HP
  go_enter Try.func3, Try.ntmps3
  go_wp2_with (first | (go_at_call 9; refine (zzBytes_any _ _ _ _ _ (Nat.zero_le _)).mono ?_; rintro e w' ⟨rfl, rfl⟩) | (go_at_call 10; refine (zzClone_empty _ _ _).mono ?_; rintro e w1 ⟨rfl, hown, hb⟩) | (go_at_call 11; refine (HPH.out _).mono ?_; rintro e w' ⟨rfl, rfl⟩))
  refine wp_loop_rounds 1 ?_
  rw [rounds_succ]
  go_wp2
  go_ret
  exact ⟨rfl, hb⟩

set_option maxHeartbeats 1000000 in
theorem walk_some (b off n cap i : Nat) (zs : List Int) (w : World) (hn : zs.length = n) (hp : 0 < n) (hm : n ≤ 4096) (hi : i ≤ n) (hc : At w b off zs) :
    Calls Try.prog 3 #[.slice (some ⟨b, off, none⟩) n cap, .int .i64 i] w fun e w' => e = .returned (.bool true) ∧ Below w.heap.size w w' := by
  have hM : n ≤ maxLen := by unfold maxLen; omega
  have HM : Hid (n ≤ maxLen) := hM
  have hclone := zzClone_some b off n cap zs w hn hp (by omega) hc
  have HCL : Hid _ := hclone
  obtain ⟨t, ht⟩ : ∃ t, t = zs.drop i := ⟨_, rfl⟩
  have HT : Hid (t = zs.drop i) := ht
  have htl : t.length + i = n := by rw [ht, List.length_drop]; omega
  have HTL : Hid (i + t.length = n) := by show _ = _; omega
  have HPE : Hid (∀ w1 : World, At w1 w.heap.size i t → Calls Try.prog 11 #[newRow w n, .int .i64 i] w1 fun e w' => e = .returned (.tuple #[.int .i64 (peEnd t i), .bool (peOk t)]) ∧ w1 = w') :=
    fun w1 h => zzPlainEnd_any w.heap.size n n i t w1 HTL.out hM h
  have hd : decide (n ≤ 1048576) = true := decide_eq_true (by omega)
  have hd1 : decide ((4096 : Int) < (n : Int)) = false := decide_eq_false (by omega)
  have hd2 : decide ((i : Int) < 0) = false := decide_eq_false (by omega)
  clear hclone ht hc hn hM htl
  obtain ⟨pe, hpe⟩ : ∃ pe, pe = peEnd t i := ⟨_, rfl⟩
  obtain ⟨po, hpo⟩ : ∃ po, po = peOk t := ⟨_, rfl⟩
  rw [← hpe, ← hpo] at HPE
  have HE : Hid (pe = peEnd t i) := hpe
  have HO : Hid (po = peOk t) := hpo
  clear hpe hpo
  go_enter Try.func3, Try.ntmps3
  go_wp2_with (go_at_call 9; refine (zzBytes_any _ _ _ _ _ HM.out).mono ?_; rintro e w' ⟨rfl, rfl⟩)
  refine Calls.mono HCL.out ?_
  rintro e w1 ⟨rfl, hown, hb⟩
  have hat : Hid (∀ m, At w1 w.heap.size i (t.take m)) := by rw [HT.out]; exact fun m => own_at hown i m
  have hat' : Hid (At w1 w.heap.size i t) := by have := hat.out t.length; rw [List.take_length] at this; exact this
  have HB : Hid (Below w.heap.size w w1) := hb
  clear hown hb HCL
  go_wp2_with fail
  refine Calls.mono (HPE.out _ hat'.out) ?_
  rintro e w' ⟨rfl, rfl⟩
  go_wp2_with fail
  go_loop [7, 8] (fun v7 v8 => ∃ m : Nat, i + m ≤ n ∧ v7 = .int .i64 (-1) ∧ v8 = .int .i64 ((i : Int) + m) ∧ Hid (∀ e, m < e → e ≤ t.length → Tok.isTok (t.take e) = false)) (fun _ v8 => ((intOf v8) - i).toNat)
  case atStart => exact ⟨n - i, by omega, rfl, by go_num, fun e h1 h2 => by have := HTL.out; omega⟩
  case round =>
    obtain ⟨m, hmn, rfl, rfl, hno⟩ := hrel
    by_cases h0 : m = 0
    · have hgt : ¬ ((i : Int) < (i : Int) + m) := by omega
      have R : Hid (po = false ∧ pe = 0) := by
        have := notFound (t := t) (fun e h1 h2 => hno.out e (by omega) h2)
        exact ⟨by rw [HO.out]; simp [peOk, this], by rw [HE.out]; simp [peEnd, this]⟩
      obtain ⟨hpo, hpe⟩ := R.out
      subst hpo; subst hpe
      clear R HPE HE HO hno
      go_wp2
      go_ret
      exact ⟨rfl, HB.out⟩
    · have hgt : (i : Int) < (i : Int) + m := by omega
      have hlm : (t.take m).length = m := by rw [List.length_take]; have := HTL.out; omega
      have HTOK : Hid (∀ cap, Calls Try.prog 12 #[.slice (some ⟨w.heap.size, i, none⟩) m cap] w1 fun e w' => e = .returned (.bool (Tok.isTok (t.take m))) ∧ w1 = w') := fun cap => isPlainToken_list w.heap.size i cap m (t.take m) w1 hlm (by omega) (by have := HM.out; unfold maxLen at this ⊢; omega) (hat.out m)
      obtain ⟨tk, htk⟩ : ∃ tk, tk = Tok.isTok (t.take m) := ⟨_, rfl⟩
      rw [← htk] at HTOK
      have HTK : Hid (tk = Tok.isTok (t.take m)) := htk
      clear htk hlm
      cases tk
      · go_wp2_with fail
        refine Calls.mono (HTOK.out _) ?_
        rintro e w' ⟨rfl, rfl⟩
        go_wp2
        go_round
        case rel => exact ⟨m - 1, by omega, rfl, by go_num, fun e h1 h2 => by
          rcases Nat.lt_or_ge m e with h | h
          · exact hno.out e h h2
          · rw [show e = m from by omega]; exact HTK.out.symm⟩
        case measure => simp [intOf]; omega
      · have R : Hid (po = true ∧ pe = (i : Int) + m) := by
          have := found (t := t) (m := m) (by omega) (by have := HTL.out; omega) HTK.out.symm hno.out
          exact ⟨by rw [HO.out]; simp [peOk, this], by rw [HE.out]; simp [peEnd, this]⟩
        obtain ⟨hpo, hpe⟩ := R.out
        subst hpo; subst hpe
        clear R HPE HE HO hno
        go_wp2_with fail
        refine Calls.mono (HTOK.out _) ?_
        rintro e w' ⟨rfl, rfl⟩
        have hge : (((i : Int) + m) == ((i : Int) + m)) = true := beq_self_eq_true _
        go_wp2
        go_ret
        exact ⟨rfl, HB.out⟩

theorem own : ownKnob Try.prog.godebug = none := by kernel_rfl
theorem laidOut : laidOutB Try.prog = true := by kernel_rfl

/-! ### THE WALK -/
theorem walk (a0 : Option Addr) (len0 cap0 : Nat) (z0 : List Int) (a1 : Int) (w : World) (w0 : IsRow .u8 w a0 len0 cap0 z0) (w1 : (Lit.int .i64 a1).wf = true) :
    Calls Try.prog 3 #[.slice a0 len0 cap0, .int .i64 a1] w fun e w' => e = .returned (.bool true) ∧ Below w.heap.size w w' := by
  have hM : len0 ≤ maxLen := by
    rcases w0 with ⟨_, rfl, _, _⟩ | ⟨x, _, h1, h2, _⟩
    · exact Nat.zero_le _
    · omega
  by_cases hout : 1048576 < len0 ∨ (len0 ≤ 1048576 ∧ 4096 < len0) ∨ (len0 ≤ 4096 ∧ a1 < 0) ∨ (len0 ≤ 4096 ∧ 0 ≤ a1 ∧ (len0 : Int) < a1)
  · exact walk_out a0 len0 cap0 a1 w hM hout
  have hlen : len0 ≤ 4096 := by omega
  obtain ⟨i, rfl⟩ := Int.eq_ofNat_of_zero_le (show 0 ≤ a1 by omega)
  have hi : i ≤ len0 := by omega
  clear hout
  rcases w0 with ⟨rfl, rfl, rfl, rfl⟩ | ⟨x, rfl, h1, h2, h3, h4, h5⟩
  · obtain rfl : i = 0 := by omega
    exact walk_nil w
  · by_cases h0 : len0 = 0
    · subst h0
      obtain rfl : i = 0 := by omega
      exact walk_empty x cap0 w
    · obtain ⟨b, off, spot⟩ := x
      have hspot : spot = none := by simpa [Addr.add] using World.cell?_spot (h4 0 (by omega))
      subst hspot
      refine walk_some b off len0 cap0 i (z0.take len0) w (by simp; omega) (by omega) hlen hi ?_
      intro j hj
      have hj' : j < len0 := by simp at hj; omega
      have := h4 j (by omega)
      rw [add_plain] at this
      rw [this, List.getD_eq_getElem?_getD, List.getD_eq_getElem?_getD, List.getElem?_take_of_lt hj']

/-! ### THE ROW's STEP: WRITTEN OUT: LEAVE IT -/
set_option maxRecDepth 100000 in
theorem lifted (os : Os) (started : os.Started) (H : Type) (enc : TypeId × Value → H) :
    ReturnsInHanded {} Try.checked os 3 .any (Rows.fnPlainEndIsLongestPlainTokenSpec.pre6 enc Try.prog Try.f3 Rows.fnPlainEndIsLongestPlainTokenRow.domain false) (Rows.fnPlainEndIsLongestPlainTokenSpec.post enc Try.prog Try.f3 false true false false) := by
  refine returnsInHanded_of_change (C := Try.checked) own started (by kernel_rfl) Try.func3
    (ChangeSpec.witness6 (enc := enc) (C := Try.checked) false ⟨#[], #[.slice none 0 0, .int .i64 0], []⟩ 8 (by kernel_rfl) (by kernel_rfl) (by kernel_rfl) (by kernel_rfl)) ?_
  intro W base args ds gs before hval0 hW hcnd _
  have hval : ∀ (j : Nat) t v, Try.f3.params[j]? = some t → args[j]? = some v → Value.okWide Try.prog W .any base t v := hval0
  have hW' := hW
  obtain ⟨p, q, hA0, hV, rfl, hfz, hnd⟩ := hW
  have hA : DataW.TrodAll enc Try.prog W 0 (fun _ => true) true Try.f3.params.toList args.toList ds p := hA0
  rw [Try.params3] at hA hval
  obtain ⟨v0, vs0, d0, ds0, p0, q0, hargs, rfl, rfl, h0, r0⟩ := trodAll_cons hA
  obtain ⟨v1, vs1, d1, ds1, p1, q1, rfl, rfl, rfl, h1, r1⟩ := trodAll_cons r0
  obtain ⟨rfl, rfl, rfl⟩ := trodAll_nil r1
  obtain rfl : args = #[v0, v1] := by cases args; simp_all
  obtain ⟨rfl, rfl⟩ := trodVars_none hV
  obtain ⟨a0, len0, cap0, rfl⟩ := okWide_slice Try.underlying22 (hval 0 22 v0 rfl rfl)
  have k0 := h0
  have lt0 : ∀ x ∈ p0, x.block < W.heap.size := by obtain ⟨m, hm⟩ := k0; exact DataW.trod_lt m _ _ _ hm
  obtain ⟨z0, w0⟩ : ∃ zs, IsRow .u8 W a0 len0 cap0 zs := by
    obtain ⟨fuel, hf⟩ := h0
    rcases open_ints Try.underlying22 Try.underlying5 (by kernel_rfl) hf with ⟨hcs, _⟩ | ⟨x, l, c, zs, hcs, _, hl, hm, hz, _, hcell, hwz⟩
    · simp [Value.cells] at hcs
      obtain ⟨rfl, rfl, rfl⟩ := hcs
      exact ⟨[], .inl ⟨rfl, rfl, rfl, rfl⟩⟩
    · simp [Value.cells] at hcs
      obtain ⟨rfl, rfl, rfl⟩ := hcs
      exact ⟨zs, .inr ⟨_, rfl, hl, hm, by simpa using hz, hcell, hwz⟩⟩
  obtain ⟨a1, rfl, rfl, rfl, w1⟩ := open_int Try.underlying3 (hval 1 3 v1 rfl rfl) h1
  clear hA0 hval0
  refine (walk a0 len0 cap0 z0 a1 W w0 w1).mono fun e W' ⟨he, bel⟩ => ?_
  subst he
  exact ⟨_, rfl, _, _, _, [], _, [], hW', trodAll_mk1 (shut_bool Try.underlying4 _), (trodAll_cons_mk (Below.trod laidOut (by kernel_rfl) (of_decide_eq_true (by kernel_rfl)) k0 bel lt0) (trodAll_cons_mk (shut_int Try.underlying3 w1) trodAll_mk0)), rfl, bel.frame _, fun h => by cases h⟩

theorem over : Rows.fnPlainEndIsLongestPlainTokenRow.holds Try.pinned (OpenSpec.ofChange Rows.fnPlainEndIsLongestPlainTokenSpec) :=
  OpenClaim.holds_of_wide 3 Try.f3 rfl rfl rfl rfl rfl rfl rfl ⟨rfl, rfl, rfl, rfl, rfl⟩ rfl rfl rfl rfl rfl (by kernel_rfl) Try.func3 (by kernel_rfl)
    (of_decide_eq_true (by kernel_rfl)) (by unfold Func.isWrapper; first | (rw [if_pos (by decide +kernel)]; kernel_rfl) | (rw [if_neg (by decide +kernel)]; exact ⟨rfl, rfl⟩))
    (fun os started H enc _ => lifted os started H enc)

/-- ████ THE STATEMENT ████ -/
theorem proved : Rows.FnPlainEndIsLongestPlainTokenSaid := over
end Go.Proofs.Qxb6000782a.fnPlainEndIsLongestPlainToken
