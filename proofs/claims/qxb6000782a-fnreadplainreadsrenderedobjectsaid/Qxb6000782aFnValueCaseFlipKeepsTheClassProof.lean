/- 'Rows.FnValueCaseFlipKeepsTheClassSaid' PROVED: the walk of the law over the contracts; the row's step is the given shell's. -/
import Derived.Test.Qxb6000782aRows
import Derived.Test.Qxb6000782aFlip
import Derived.Test.Qxb6000782aClone
import Derived.WalkKit
import Derived.ProofKit
import Derived.OpenShut
import Derived.ShutString
import Derived.ChangeOld
import Derived.Below
namespace Go.Proofs.Qxb6000782a.fnValueCaseFlipKeepsTheClass
open Go.ChangeShapes Go.WideShapes Go.ChangeAt Go.RowKit
open Go.ChangeMaps (open_string shut_string)
set_option linter.unusedVariables false
set_option linter.unusedSimpArgs false

/-- Do the lengths fit the law's own bound? -/
def small (n m : Nat) : Bool := decide (n ≤ 1048576) && decide (m ≤ 1048576) && decide (n + m ≤ 1048576)

theorem zzBytes_any (a : Option Addr) (n cap : Nat) (a' : Option Addr) (m cap' : Nat) (w : World) (hm : n ≤ maxLen) (hm' : m ≤ maxLen) :
    Calls Try.prog 16 #[.slice a n cap, .slice a' m cap'] w fun e w' => e = .returned (.bool (small n m)) ∧ w = w' := by
  unfold maxLen at hm hm'
  by_cases h1 : n ≤ 1048576
  · by_cases h2 : m ≤ 1048576
    · by_cases h3 : n + m ≤ 1048576
      all_goals
        go_enter Try.func16, Try.ntmps16
        go_wp2
        go_ret
        exact ⟨ret_bool (by simp [small, h1, h2, h3]), rfl⟩
    · go_enter Try.func16, Try.ntmps16
      go_wp2
      go_ret
      exact ⟨ret_bool (by simp [small, h1, h2]), rfl⟩
  · go_enter Try.func16, Try.ntmps16
    go_wp2
    go_ret
    exact ⟨ret_bool (by simp [small, h1]), rfl⟩

theorem own_at0 {w : World} {base g n cap : Nat} {zs : List Int} (h : w.ownsRow base 5 1 (.slice (some ⟨g, 0, none⟩) n cap) n (zs.map (Value.int .u8))) : At w g 0 zs := by
  have hl : zs.length = n := by simpa using h.1
  intro j hj
  rw [Nat.zero_add]
  have := h.cellAt j (by omega)
  rw [this, List.getElem?_map, getD_some hj]
  rfl

/-- zzClone, of whatever slice. -/
theorem zzClone_has (a : Option Addr) (n cap : Nat) (zs : List Int) (w : World) (hn : zs.length = n) (hm : n ≤ 281474976710656) (hnil : a = none → cap = 0) (hc : Has w a zs) :
    Calls Try.prog 10 #[.slice a n cap] w fun e w' => ∃ a' c', e = .returned (.slice a' n c') ∧ Has w' a' zs ∧ Below w.heap.size w w' := by
  by_cases h0 : n = 0
  · subst h0
    have hz : zs = [] := List.length_eq_zero_iff.1 hn
    subst hz
    cases a with
    | none =>
      obtain rfl := hnil rfl
      refine (zzClone_nil w).mono ?_
      rintro e w' ⟨rfl, rfl⟩
      exact ⟨none, 0, rfl, .inl rfl, Below.refl _ _⟩
    | some x =>
      refine (zzClone_empty x cap w).mono ?_
      rintro e w' ⟨rfl, _, hb⟩
      exact ⟨_, _, rfl, .inl rfl, hb⟩
  · rcases hc with h | ⟨b, off, rfl, h⟩
    · subst h; simp at hn; omega
    · refine (zzClone_some b off n cap zs w hn (by omega) hm h).mono ?_
      rintro e w' ⟨rfl, ho, hb⟩
      exact ⟨_, _, rfl, .inr ⟨_, _, rfl, own_at0 ho⟩, hb⟩

/-- The inputs on which the law says nothing. -/
theorem walk_out (a : Option Addr) (n cap : Nat) (a' : Option Addr) (m cap' : Nat) (w : World) (hm : n ≤ maxLen) (hm' : m ≤ maxLen) (h : small n m = false ∨ (small n m = true ∧ 524288 < n) ∨ (small n m = true ∧ n ≤ 524288 ∧ 524288 < m)) :
    Calls Try.prog 5 #[.slice a n cap, .slice a' m cap'] w fun e w' => e = .returned (.bool true) ∧ Below w.heap.size w w' := by
  have HM := hm
  have HM' := hm'
  unfold maxLen at hm hm'
  rcases h with h | ⟨h, h'⟩ | ⟨h, h', h''⟩
  all_goals
    go_enter Try.func5, Try.ntmps5
    go_wp2_with (go_at_call 16; refine (zzBytes_any _ _ _ _ _ _ _ HM HM').mono ?_; rintro e w' ⟨rfl, rfl⟩)
    go_ret
    exact ⟨rfl, Below.refl _ _⟩

set_option maxHeartbeats 1000000 in
theorem walk_in (a : Option Addr) (n cap : Nat) (a' : Option Addr) (m cap' : Nat) (zs ms : List Int) (w : World) (hm : n ≤ 524288) (hm' : m ≤ 524288) (hs : small n m = true)
    (hn : zs.length = n) (hn' : ms.length = m) (hb : Byt zs) (hb' : Byt ms) (hnil : a = none → cap = 0) (hnil' : a' = none → cap' = 0) (hc : Has w a zs) (hc' : Has w a' ms) :
    Calls Try.prog 5 #[.slice a n cap, .slice a' m cap'] w fun e w' => e = .returned (.bool true) ∧ Below w.heap.size w w' := by
  obtain ⟨i0, hi, hz0, hz1, hz2⟩ := info_parts Try.info5
  have HM : Hid (n ≤ maxLen) := by show _ ≤ _; unfold maxLen; omega
  have HM' : Hid (m ≤ maxLen) := by show _ ≤ _; unfold maxLen; omega
  have HN : Hid (zs.length = n) := hn
  have HN' : Hid (ms.length = m) := hn'
  have HCL : Hid _ := zzClone_has a n cap zs w hn (by omega) hnil hc
  have HCL' : Hid (∀ wx : World, Below w.heap.size w wx → Calls Try.prog 10 #[.slice a' m cap'] wx fun e w' => ∃ a2 c', e = .returned (.slice a2 m c') ∧ Has w' a2 ms ∧ Below wx.heap.size wx w') :=
    fun wx h => zzClone_has a' m cap' ms wx hn' (by omega) hnil' (hc'.below h)
  have hd1 : decide ((524288 : Int) < (n : Int)) = false := decide_eq_false (by omega)
  have hd2 : decide ((524288 : Int) < (m : Int)) = false := decide_eq_false (by omega)
  clear hn hn' hc hc' hnil hnil'
  go_enter Try.func5, Try.ntmps5
  go_wp2_with (go_at_call 16; refine (zzBytes_any _ _ _ _ _ _ _ HM.out HM'.out).mono ?_; rintro e w' ⟨rfl, rfl⟩)
  refine Calls.mono HCL.out ?_
  rintro e w1 ⟨a0, c0, rfl, HK1, hb1⟩
  have HB1 : Hid _ := hb1
  have HK : Hid (Has w1 a0 zs) := HK1
  clear HCL HK1 hb1
  go_wp2_with fail
  refine Calls.mono (HCL'.out _ HB1.out) ?_
  rintro e w2 ⟨a1, c1, rfl, HM1, hb2⟩
  have HB2 : Hid (Below w.heap.size w w2) := HB1.out.trans (hb2.mono HB1.out.size)
  have HK2 : Hid (Has w2 a0 zs) := HK.out.below hb2
  have HMS : Hid (Has w2 a1 ms) := HM1
  clear HCL' HM1 hb2 HB1 HK
  go_wp2_with (at_make; refine wpList_make_full _ rfl _ _ 22 rfl w2.heap.size 5 i0 (.int .u8 0) 1 Try.underlying22 hi hz0 hz1 .i64 .i64 _ _ n rfl rfl rfl rfl (by rw [hz2]; omega) (by unfold maxLen; omega) (Nat.le_refl _) ?_; intro w3 hown hgrow)
  obtain ⟨ys, hys⟩ : ∃ ys, ys = flipped zs ms := ⟨_, rfl⟩
  have HYS : Hid (ys = flipped zs ms) := hys
  have HYN : Hid (ys.length = n) := by show _ = _; rw [hys, flipped_length]; exact HN.out
  have hown' : w3.ownsRow w2.heap.size 5 1 (newRow w2 n) n (((ys.take 0).map (Value.int .u8)) ++ List.replicate (n - 0) (.int .u8 0)) := by
    have e : (madeCells (Value.int .u8 0).cells (n * 1)).toList = List.replicate n (.int .u8 0) := by rw [Nat.mul_one]; exact toList_madeCells_one _ _
    rw [e] at hown
    simpa using hown
  have hb3 : Below w2.heap.size w2 w3 := (Below.refl _ _).grown hgrow (Nat.le_refl _) (by simp)
  clear hown hgrow hi hz0 hz1 hz2 hys
  go_loopw [6] (fun i wr => ∃ k : Nat, k ≤ n ∧ i = .int .i64 k ∧ Hid (wr.ownsRow w2.heap.size 5 1 (newRow w2 n) n (((ys.take k).map (Value.int .u8)) ++ List.replicate (n - k) (.int .u8 0))) ∧ Hid (Below w2.heap.size w2 wr)) (fun i _ => n - (intOf i).toNat)
  case atStart => exact ⟨0, Nat.zero_le _, rfl, hown', hb3⟩
  case round =>
    clear hown' hb3
    obtain ⟨k, hk, rfl, HO, HBR⟩ := hrel
    by_cases hlt : k < n
    · obtain ⟨c, hcc⟩ : ∃ c, c = zs.getD k 0 := ⟨_, rfl⟩
      have hkz : Hid (k < zs.length) := by show _ < _; rw [HN.out]; exact hlt
      obtain ⟨b0, off0, ha0, hat0⟩ : ∃ b off, a0 = some ⟨b, off, none⟩ ∧ At w2 b off zs := by
        rcases HK2.out with h | h
        · have := hkz.out; rw [h] at this; simp at this
        · exact h
      have hcell : wr.cell? ⟨b0, off0 + k, none⟩ = some (.int .u8 c) := by rw [hcc]; exact cell_later HBR.out (hat0 k hkz.out)
      obtain ⟨o, hold⟩ : ∃ o, wr.cell? ⟨w2.heap.size, k, none⟩ = some o := by
        have := HO.out.cellAt k (by omega)
        rw [this]
        have hl : k < (((ys.take k).map (Value.int .u8)) ++ List.replicate (n - k) (Value.int .u8 0)).length := by rw [HO.out.1]; omega
        exact ⟨_, List.getElem?_eq_getElem hl⟩
      have hfr := HO.out.frozenAt k
      have R : Hid (∀ v, v = flip1 c (mb ms k) → ((wr.setCell ⟨w2.heap.size, k, none⟩ (.int .u8 v)).ownsRow w2.heap.size 5 1 (newRow w2 n) n (((ys.take (k + 1)).map (Value.int .u8)) ++ List.replicate (n - (k + 1)) (.int .u8 0)) ∧ Below w2.heap.size w2 (wr.setCell ⟨w2.heap.size, k, none⟩ (.int .u8 v)))) := by
        intro v hv
        have hst := (HO.out.stored k (.int .u8 v))
        rw [row_step (Value.int .u8) (.int .u8 0) ys n k v HYN.out hlt (by rw [HYS.out, flipped_at zs ms k hkz.out, hv, hcc])] at hst
        exact ⟨hst.1, HBR.out.setCell (Nat.le_refl _) _⟩
      have hcb := hb.at k
      rw [← hcc] at hcb
      obtain ⟨hc0, hc255⟩ := hcb
      subst ha0
      clear hat0 hcc hb
      by_cases hkm : k < m
      · obtain ⟨d, hdd⟩ : ∃ d, d = ms.getD k 0 := ⟨_, rfl⟩
        have hkz' : Hid (k < ms.length) := by show _ < _; rw [HN'.out]; exact hkm
        obtain ⟨b1, off1, ha1, hat1⟩ : ∃ b off, a1 = some ⟨b, off, none⟩ ∧ At w2 b off ms := by
          rcases HMS.out with h | h
          · have := hkz'.out; rw [h] at this; simp at this
          · exact h
        have hcell' : wr.cell? ⟨b1, off1 + k, none⟩ = some (.int .u8 d) := by rw [hdd]; exact cell_later HBR.out (hat1 k hkz'.out)
        have hmb : Hid (mb ms k = mbit d) := by show _ = _; unfold mb; rw [← hdd, decide_eq_true hkz'.out, Bool.true_and]
        subst ha1
        clear hat1 hdd
        go_wp2_with (go_at_call 17; refine (isLetter_any _ _).mono ?_; rintro e w' ⟨rfl, rfl⟩)
        · have hv : bits BinOp.xor IntKind.u8 c 32 = flip1 c (mb ms k) := by
            have h1 : bits BinOp.and IntKind.u8 d 1 = 1 := by assumption
            have h2 : let1 c = true := by assumption
            rw [hmb.out, mbit_xor h2]; simp [flip1, mbit, h1, h2]
          go_roundw
          case rel => exact ⟨k + 1, by omega, by go_num, (R.out _ hv).1, (R.out _ hv).2⟩
          case measure => simp [intOf]; omega
        · have hv : c = flip1 c (mb ms k) := by
            have h2 : let1 c = false := by assumption
            simp [flip1, h2]
          have HV : Hid _ := hv
          clear hv
          go_roundw
          case rel => exact ⟨k + 1, by omega, by go_num, (R.out _ HV.out).1, (R.out _ HV.out).2⟩
          case measure => simp [intOf]; omega
        · have hv : c = flip1 c (mb ms k) := by
            have h1 : ¬ bits BinOp.and IntKind.u8 d 1 = 1 := by assumption
            have h2 : mbit d = false := by simp [mbit, h1]
            rw [hmb.out, h2]; simp [flip1]
          have HV : Hid _ := hv
          clear hv
          go_roundw
          case rel => exact ⟨k + 1, by omega, by go_num, (R.out _ HV.out).1, (R.out _ HV.out).2⟩
          case measure => simp [intOf]; omega
      · have hkm' : ¬ ((k : Int) < (m : Int)) := by omega
        have HV : Hid (c = flip1 c (mb ms k)) := by
          show _ = _
          have h2 : mb ms k = false := by unfold mb; rw [decide_eq_false (by rw [HN'.out]; exact hkm), Bool.false_and]
          rw [h2]; simp [flip1]
        go_wp2
        go_roundw
        case rel => exact ⟨k + 1, by omega, by go_num, (R.out _ HV.out).1, (R.out _ HV.out).2⟩
        case measure => simp [intOf]; omega
    · have hown : wr.ownsRow w2.heap.size 5 1 (newRow w2 n) n (ys.map (Value.int .u8)) := by
        have := HO.out
        rw [List.take_of_length_le (by rw [HYN.out]; omega), show n - k = 0 from by omega] at this
        simpa using this
      have HAT : Hid (Has wr (some ⟨w2.heap.size, 0, none⟩) ys) := .inr ⟨_, _, rfl, own_at0 hown⟩
      have HKR : Hid (Has wr a0 zs) := HK2.out.below HBR.out
      have HBW : Hid (Below w.heap.size w wr) := HB2.out.trans (HBR.out.mono HB2.out.size)
      have HBY : Hid (Byt zs) := hb
      have HBY' : Hid (Byt ys) := by rw [HYS.out]; exact hb.flipped ms
      clear hown HO HK2 HMS HB2 HBR hb hb'
      go_wp2_with fail
      refine (zzValue_any a0 n c0 zs _ HN.out HM.out HBY.out HKR.out).mono ?_
      rintro e w4 ⟨rfl, hb4⟩
      have HAT4 : Hid (Has w4 (some ⟨w2.heap.size, 0, none⟩) ys) := HAT.out.below hb4
      have HKR4 : Hid (Has w4 a0 zs) := HKR.out.below hb4
      have HBW4 : Hid (Below w.heap.size w w4) := HBW.out.trans (hb4.mono HBW.out.size)
      clear hb4 HAT HKR HBW
      go_wp2_with fail
      refine (zzValue_any _ n n ys _ HYN.out HM.out HBY'.out HAT4.out).mono ?_
      rintro e w5 ⟨rfl, hb5⟩
      have HAT5 : Hid (Has w5 (some ⟨w2.heap.size, 0, none⟩) ys) := HAT4.out.below hb5
      have HKR5 : Hid (Has w5 a0 zs) := HKR4.out.below hb5
      have HBW5 : Hid (Below w.heap.size w w5) := HBW4.out.trans (hb5.mono HBW4.out.size)
      clear hb5 HAT4 HKR4 HBW4
      cases hv : vIdx zs with
      | none =>
        have e1 : zIdx zs = -1 := by simp [zIdx, hv]
        have e2 : vOk zs = !vFold zs := by simp [vOk, hv]
        have e3 : vFold ys = vFold zs := by rw [HYS.out]; exact vFold_flipped zs ms
        cases hf : vFold zs
        · have hvy : vIdx ys = none := by
            cases hh : vIdx ys with
            | none => rfl
            | some i => have := vFold_of_exact hh; rw [e3, hf] at this; cases this
          have e4 : zIdx ys = -1 := by simp [zIdx, hvy]
          have e5 : vOk ys = true := by simp [vOk, hvy, e3, hf]
          have e6 : vOk zs = true := by rw [e2, hf]; rfl
          rw [e1, e4, e5, e6]
          clear e1 e2 e3 e4 e5 e6 hv hf hvy
          go_wp2
          go_ret
          exact ⟨rfl, HBW5.out⟩
        · have e6 : vOk zs = false := by rw [e2, hf]; rfl
          rw [hf] at e3
          cases hh : vIdx ys with
          | none =>
            have e4 : zIdx ys = -1 := by simp [zIdx, hh]
            have e5 : vOk ys = false := by simp [vOk, hh, e3]
            rw [e1, e4, e5, e6]
            clear e1 e2 e3 e4 e5 e6 hv hf hh
            go_wp2
            go_ret
            exact ⟨rfl, HBW5.out⟩
          | some i =>
            have e4 : zIdx ys = (i : Int) := by simp [zIdx, hh]
            have hge : (0 : Int) ≤ (i : Int) := by omega
            rw [e1, e4, e6]
            clear e1 e2 e3 e4 e6 hv hf hh
            generalize vOk ys = q
            go_wp2
            go_ret
            exact ⟨rfl, HBW5.out⟩
      | some j =>
        have e1 : zIdx zs = (j : Int) := by simp [zIdx, hv]
        have e2 : vOk zs = true := by simp [vOk, hv]
        rw [e1, e2]
        have hge : (0 : Int) ≤ (j : Int) := by omega
        obtain ⟨b0, off0, ha0, hat0⟩ : ∃ b off, a0 = some ⟨b, off, none⟩ ∧ At w5 b off zs := by
          rcases HKR5.out with h | h
          · have := (vIdx_exact hv).2; rw [h] at this; exact absurd this.symm (nm_ne j)
          · exact h
        have hat1 : At w5 w2.heap.size 0 ys := by
          rcases HAT5.out with h | ⟨b, off, h, h'⟩
          · rw [h]; intro i hi; simp at hi
          · simp at h; obtain ⟨rfl, rfl⟩ := h; exact h'
        subst ha0
        have HEQ : Hid _ := zzEqualBytes_any b0 off0 c0 w2.heap.size 0 n n n zs ys w5 HN.out HYN.out HM.out HM.out hat0 hat1
        clear hat0 hat1 HKR5 HAT5 e1 e2
        cases hq : (zs == ys)
        · rw [HYS.out] at hq
          obtain ⟨h1, h2⟩ := flipped_refused hv hq
          rw [← HYS.out] at h1 h2 hq
          have e4 : zIdx ys = -1 := by simp [zIdx, h1]
          have e5 : vOk ys = false := by simp [vOk, h1, h2]
          rw [e4, e5]
          rw [hq] at HEQ
          clear h1 h2 hq e4 e5 hv HYS
          go_wp2_with fail
          refine Calls.mono HEQ.out ?_
          rintro e w6 ⟨rfl, q, rfl⟩
          go_wp2
          go_ret
          exact ⟨rfl, below_drewN HBW5.out q⟩
        · have e : ys = zs := (beq_iff_eq.1 hq).symm
          have e4 : zIdx ys = (j : Int) := by rw [e]; simp [zIdx, hv]
          have e5 : vOk ys = true := by rw [e]; simp [vOk, hv]
          rw [e4, e5]
          rw [hq] at HEQ
          clear hq e4 e5 hv HYS e
          go_wp2_with fail
          refine Calls.mono HEQ.out ?_
          rintro e w6 ⟨rfl, q, rfl⟩
          go_wp2
          go_ret
          exact ⟨rfl, below_drewN HBW5.out q⟩

theorem own : ownKnob Try.prog.godebug = none := by kernel_rfl
theorem laidOut : laidOutB Try.prog = true := by kernel_rfl

/-- WHAT THE WALK IS TOLD OF A SLICE OF INTEGERS THAT CAME IN: it is nil; or it leads to a row of 'cap' cells, the numbers 'zs' (the first 'len' are its elements, the rest its spare room), each fitting its kind. -/
def IsRow (k : IntKind) (w : World) (a : Option Addr) (len cap : Nat) (zs : List Int) : Prop :=
  (a = none ∧ len = 0 ∧ cap = 0 ∧ zs = []) ∨
  ∃ x, a = some x ∧ len ≤ cap ∧ cap ≤ maxLen ∧ zs.length = cap ∧ (∀ i, i < zs.length → w.cell? (x.add i) = some (.int k (zs.getD i 0))) ∧ ∀ n ∈ zs, (Lit.int k n).wf = true

theorem isRow_has {w : World} {a : Option Addr} {len cap : Nat} {zs : List Int} (h : IsRow .u8 w a len cap zs) :
    (zs.take len).length = len ∧ Byt (zs.take len) ∧ (a = none → cap = 0) ∧ Has w a (zs.take len) ∧ len ≤ maxLen := by
  rcases h with ⟨rfl, rfl, rfl, rfl⟩ | ⟨x, rfl, h1, h2, h3, h4, h5⟩
  · exact ⟨rfl, by intro c hc; simp at hc, fun _ => rfl, .inl rfl, Nat.zero_le _⟩
  · refine ⟨by simp; omega, ?_, by simp, ?_, by omega⟩
    · intro c hc
      have := h5 c (List.mem_of_mem_take hc)
      exact bounds_u8 this
    · by_cases h0 : len = 0
      · subst h0; exact .inl rfl
      · obtain ⟨b, off, spot⟩ := x
        have hspot : spot = none := by simpa [Addr.add] using World.cell?_spot (h4 0 (by omega))
        subst hspot
        refine .inr ⟨b, off, rfl, ?_⟩
        intro j hj
        have hj' : j < len := by simp at hj; omega
        have := h4 j (by omega)
        rw [add_plain] at this
        rw [this, List.getD_eq_getElem?_getD, List.getD_eq_getElem?_getD, List.getElem?_take_of_lt hj']

/-! ### THE WALK -/
theorem walk (a0 : Option Addr) (len0 cap0 : Nat) (z0 : List Int) (a1 : Option Addr) (len1 cap1 : Nat) (z1 : List Int) (w : World) (w0 : IsRow .u8 w a0 len0 cap0 z0) (w1 : IsRow .u8 w a1 len1 cap1 z1) :
    Calls Try.prog 5 #[.slice a0 len0 cap0, .slice a1 len1 cap1] w fun e w' => e = .returned (.bool true) ∧ Below w.heap.size w w' := by
  obtain ⟨h1, h2, h3, h4, h5⟩ := isRow_has w0
  obtain ⟨g1, g2, g3, g4, g5⟩ := isRow_has w1
  cases hs : small len0 len1
  · exact walk_out a0 len0 cap0 a1 len1 cap1 w h5 g5 (.inl hs)
  · by_cases hn : 524288 < len0
    · exact walk_out a0 len0 cap0 a1 len1 cap1 w h5 g5 (.inr (.inl ⟨hs, hn⟩))
    · by_cases hm : 524288 < len1
      · exact walk_out a0 len0 cap0 a1 len1 cap1 w h5 g5 (.inr (.inr ⟨hs, by omega, hm⟩))
      · exact walk_in a0 len0 cap0 a1 len1 cap1 (z0.take len0) (z1.take len1) w (by omega) (by omega) hs h1 g1 h2 g2 h3 g3 h4 g4

/-! ### THE ROW's STEP: WRITTEN OUT: LEAVE IT -/
set_option maxRecDepth 100000 in
theorem lifted (os : Os) (started : os.Started) (H : Type) (enc : TypeId × Value → H) :
    ReturnsInHanded {} Try.checked os 5 .any (Rows.fnValueCaseFlipKeepsTheClassSpec.pre6 enc Try.prog Try.f5 Rows.fnValueCaseFlipKeepsTheClassRow.domain false) (Rows.fnValueCaseFlipKeepsTheClassSpec.post enc Try.prog Try.f5 false true false false) := by
  refine returnsInHanded_of_change (C := Try.checked) own started (by kernel_rfl) Try.func5
    (ChangeSpec.witness6 (enc := enc) (C := Try.checked) false ⟨#[], #[.slice none 0 0, .slice none 0 0], []⟩ 8 (by kernel_rfl) (by kernel_rfl) (by kernel_rfl) (by kernel_rfl)) ?_
  intro W base args ds gs before hval0 hW hcnd _
  have hval : ∀ (j : Nat) t v, Try.f5.params[j]? = some t → args[j]? = some v → Value.okWide Try.prog W .any base t v := hval0
  have hW' := hW
  obtain ⟨p, q, hA0, hV, rfl, hfz, hnd⟩ := hW
  have hA : DataW.TrodAll enc Try.prog W 0 (fun _ => true) true Try.f5.params.toList args.toList ds p := hA0
  rw [Try.params5] at hA hval
  obtain ⟨v0, vs0, d0, ds0, p0, q0, hargs, rfl, rfl, h0, r0⟩ := trodAll_cons hA
  obtain ⟨v1, vs1, d1, ds1, p1, q1, rfl, rfl, rfl, h1, r1⟩ := trodAll_cons r0
  obtain ⟨rfl, rfl, rfl⟩ := trodAll_nil r1
  obtain rfl : args = #[v0, v1] := by cases args; simp_all
  obtain ⟨rfl, rfl⟩ := trodVars_none hV
  obtain ⟨a0, len0, cap0, rfl⟩ := okWide_slice Try.underlying22 (hval 0 22 v0 rfl rfl)
  have k0 := h0
  have lt0 : ∀ x ∈ p0, x.block < W.heap.size := by obtain ⟨m, hm⟩ := k0; exact DataW.trod_lt m _ _ _ hm
  obtain ⟨z0, w0⟩ : ∃ zs, IsRow .u8 W a0 len0 cap0 zs := by
    obtain ⟨fuel, hf⟩ := h0
    rcases open_ints Try.underlying22 Try.underlying5 (by kernel_rfl) hf with ⟨hcs, _⟩ | ⟨x, l, c, zs, hcs, _, hl, hm, hz, _, hcell, hwz⟩
    · simp [Value.cells] at hcs
      obtain ⟨rfl, rfl, rfl⟩ := hcs
      exact ⟨[], .inl ⟨rfl, rfl, rfl, rfl⟩⟩
    · simp [Value.cells] at hcs
      obtain ⟨rfl, rfl, rfl⟩ := hcs
      exact ⟨zs, .inr ⟨_, rfl, hl, hm, by simpa using hz, hcell, hwz⟩⟩
  obtain ⟨a1, len1, cap1, rfl⟩ := okWide_slice Try.underlying22 (hval 1 22 v1 rfl rfl)
  have k1 := h1
  have lt1 : ∀ x ∈ p1, x.block < W.heap.size := by obtain ⟨m, hm⟩ := k1; exact DataW.trod_lt m _ _ _ hm
  obtain ⟨z1, w1⟩ : ∃ zs, IsRow .u8 W a1 len1 cap1 zs := by
    obtain ⟨fuel, hf⟩ := h1
    rcases open_ints Try.underlying22 Try.underlying5 (by kernel_rfl) hf with ⟨hcs, _⟩ | ⟨x, l, c, zs, hcs, _, hl, hm, hz, _, hcell, hwz⟩
    · simp [Value.cells] at hcs
      obtain ⟨rfl, rfl, rfl⟩ := hcs
      exact ⟨[], .inl ⟨rfl, rfl, rfl, rfl⟩⟩
    · simp [Value.cells] at hcs
      obtain ⟨rfl, rfl, rfl⟩ := hcs
      exact ⟨zs, .inr ⟨_, rfl, hl, hm, by simpa using hz, hcell, hwz⟩⟩
  clear hA0 hval0
  refine (walk a0 len0 cap0 z0 a1 len1 cap1 z1 W w0 w1).mono fun e W' ⟨he, bel⟩ => ?_
  subst he
  exact ⟨_, rfl, _, _, _, [], _, [], hW', trodAll_mk1 (shut_bool Try.underlying4 _), (trodAll_cons_mk (Below.trod laidOut (by kernel_rfl) (of_decide_eq_true (by kernel_rfl)) k0 bel lt0) (trodAll_cons_mk (Below.trod laidOut (by kernel_rfl) (of_decide_eq_true (by kernel_rfl)) k1 bel lt1) trodAll_mk0)), rfl, bel.frame _, fun h => by cases h⟩

theorem over : Rows.fnValueCaseFlipKeepsTheClassRow.holds Try.pinned (OpenSpec.ofChange Rows.fnValueCaseFlipKeepsTheClassSpec) :=
  OpenClaim.holds_of_wide 5 Try.f5 rfl rfl rfl rfl rfl rfl rfl ⟨rfl, rfl, rfl, rfl, rfl⟩ rfl rfl rfl rfl rfl (by kernel_rfl) Try.func5 (by kernel_rfl)
    (of_decide_eq_true (by kernel_rfl)) (by unfold Func.isWrapper; first | (rw [if_pos (by decide +kernel)]; kernel_rfl) | (rw [if_neg (by decide +kernel)]; exact ⟨rfl, rfl⟩))
    (fun os started H enc _ => lifted os started H enc)

/-- ████ THE STATEMENT ████ -/
theorem proved : Rows.FnValueCaseFlipKeepsTheClassSaid := over
end Go.Proofs.Qxb6000782a.fnValueCaseFlipKeepsTheClass
