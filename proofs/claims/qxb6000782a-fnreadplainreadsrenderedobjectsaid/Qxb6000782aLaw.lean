/- THE WALK OF THE LAW 'FnReadPlainReadsRenderedObject'. -/
import Derived.Test.Qxb6000782aZZRead
import Derived.Test.Qxb6000782aLoop
import Derived.Test.Qxb6000782aClones
import Derived.Test.Qxb6000782aBytes
import Derived.Test.Qxb6000782aKey
import Derived.Test.Qxb6000782aFnValueCaseFlipKeepsTheClassProof
namespace Go.Proofs.Qxb6000782a
open Go.RowKit
set_option linter.unusedVariables false
set_option linter.unusedSimpArgs false

theorem pre_len (mk : Nat → Pair) (h : ∀ j, (mk j).W0.length + (body (mk j)).length ≤ 2097199) : ∀ j, (pre mk j).length ≤ j * 2097200 := by
  intro j
  induction j with
  | zero => simp [pre]
  | succ j ih =>
    rw [pre]
    have := h j
    split <;> simp only [List.length_append, List.length_cons, List.length_nil] <;> omega

theorem LI.size2 {w4 : World} {T : Nat} {σ : Nat → Slot} {j : Nat} {w : World} {tv : Value} {zs : List Int} (h : LI w4 T σ j w tv zs) : T + 2 ≤ w.heap.size := by
  obtain ⟨_, _, _, _, _, o2, _⟩ := h.mem
  exact o2.lt

theorem Row.someSlice {w : World} {v : Value} {zs : List Int} (h : Row w v zs) (hz : zs ≠ []) : ∃ b n c, v = .slice (some ⟨b, 0, none⟩) n c := by
  rcases h.len with ⟨_, h'⟩ | ⟨g, c, h', _⟩
  · exact absurd h' hz
  · exact ⟨g, _, c, h'⟩
theorem Row.lenEq {w : World} {b n c : Nat} {zs : List Int} (h : Row w (.slice (some ⟨b, 0, none⟩) n c) zs) : n = zs.length := by
  rcases h.len with ⟨h', _⟩ | ⟨g, c, h', _⟩
  · cases h'
  · simp only [Value.slice.injEq] at h'; exact h'.2.1
theorem Row.capOk {w : World} {b n c : Nat} {zs : List Int} (h : Row w (.slice (some ⟨b, 0, none⟩) n c) zs) : n ≤ c ∧ c ≤ maxLen := by
  have hl := h.lenEq
  rcases h.2 with ⟨h', _⟩ | ⟨g, c', cur, h', _, _, h1, h2, _⟩
  · cases h'
  · simp only [Value.slice.injEq] at h'
    rw [h'.2.2, hl]
    exact ⟨h1, h2⟩

theorem line_cell (w : World) (cs out : Array Value) (k : Nat) : ((w.alloc (.cells cs 45)).setRow w.heap.size out).cell? ⟨w.heap.size, k, none⟩ = out[k]? :=
  cell_setRow_same _ _ _ cs out 45 (0, 0) (heap_alloc_new _ _)
theorem line_below (w : World) (cs out : Array Value) : Below w.heap.size w ((w.alloc (.cells cs 45)).setRow w.heap.size out) :=
  ((Below.refl _ _).alloc (Nat.le_refl _) _).trans ⟨rfl, rfl, rfl, by simp, fun k hk => setRow_other _ _ k out (by omega)⟩
theorem lineOut_at (ok : Bool) (gv tw : Nat → Bool) (ra : Nat → Option Addr) (rn rc : Nat → Nat) (n : Nat) (hn : n < 6) :
    (lineOut ok gv tw ra rn rc)[1 + n]? = some (.bool (gv n)) ∧ (lineOut ok gv tw ra rn rc)[7 + n]? = some (.bool (tw n)) ∧ (lineOut ok gv tw ra rn rc)[13 + n]? = some (.slice (ra n) (rn n) (rc n)) := by
  match n, hn with
  | 0, _ => exact ⟨rfl, rfl, rfl⟩
  | 1, _ => exact ⟨rfl, rfl, rfl⟩
  | 2, _ => exact ⟨rfl, rfl, rfl⟩
  | 3, _ => exact ⟨rfl, rfl, rfl⟩
  | 4, _ => exact ⟨rfl, rfl, rfl⟩
  | 5, _ => exact ⟨rfl, rfl, rfl⟩

theorem slots_raw (mk : Nat → Pair) (h : ∀ i, 0 < (mk i).T.length ∧ (mk i).T.length ≤ 1048578) : ∀ j n, (slots mk j n).given = true → 0 < (slots mk j n).raw.length ∧ (slots mk j n).raw.length ≤ 1048578 := by
  intro j
  induction j with
  | zero => intro n hg; cases hg
  | succ j ih =>
    intro n hg
    rw [slots] at hg ⊢
    cases hm : vIdx (mk j).K with
    | some m =>
      have es : stepP (slots mk j) (mk j) = setS (slots mk j) m (mk j).T := by unfold stepP; rw [hm]
      rw [es] at hg ⊢
      by_cases e : n = m
      · have e2 : setS (slots mk j) m (mk j).T n = ⟨(mk j).T, true, (slots mk j m).given⟩ := if_pos e
        rw [e2]; exact h j
      · have e2 : setS (slots mk j) m (mk j).T n = slots mk j n := if_neg e
        rw [e2] at hg ⊢; exact ih n hg
    | none =>
      have es : stepP (slots mk j) (mk j) = slots mk j := by unfold stepP; rw [hm]
      rw [es] at hg ⊢
      exact ih n hg

theorem Ob.of_lit (t : TypeId) (w : World) (g : Nat) (cs : Array Value) (v : Value) (h : w.heap[g]? = some (.cells cs t (0, 0))) (hs : cs.size = 6) (hv : cs = #[v, v, v, v, v, v]) : Ob t 6 w g (fun _ => v) := by
  refine ⟨cs, h, hs, fun k hk => ?_⟩
  subst hv
  match k, hk with
  | 0, _ => rfl
  | 1, _ => rfl
  | 2, _ => rfl
  | 3, _ => rfl
  | 4, _ => rfl
  | 5, _ => rfl

set_option maxRecDepth 8000 in
set_option maxHeartbeats 8000000 in
theorem law_any (a1 a2 a3 a4 : Option Addr) (n1 c1 n2 c2 n3 c3 n4 c4 : Nat) (ks ss : List ByteArray) (us : List Nat) (wz : List Int) (w : World) (h1 : ks.length = n1) (h2 : ss.length = n2) (h3 : us.length = n3) (h4 : wz.length = n4)
    (m1 : n1 ≤ maxLen) (m2 : n2 ≤ maxLen) (m3 : n3 ≤ maxLen) (m4 : n4 ≤ maxLen) (hn1 : a1 = none → c1 = 0) (hn2 : a2 = none → c2 = 0) (hn3 : a3 = none → c3 = 0) (hn4 : a4 = none → c4 = 0)
    (hk : HasV w a1 (ks.map Value.string)) (hs : HasV w a2 (ss.map Value.string)) (hu : HasV w a3 (us.map fun u : Nat => Value.int .u64 (u : Int))) (hz : Has w a4 wz)
    (sk : ∀ s ∈ ks, s.size ≤ maxLen) (ssz : ∀ s ∈ ss, s.size ≤ maxLen) (hub : ∀ u ∈ us, u < 18446744073709551616) (hby : Byt wz) :
    Calls Try.prog 6 #[.slice a1 n1 c1, .slice a2 n2 c2, .slice a3 n3 c3, .slice a4 n4 c4] w fun e w' => e = .returned (.bool true) ∧ Below w.heap.size w w' := by
  have HBy : Hid _ := zzBytes_any a1 a2 n1 c1 n2 c2 ks ss a3 a4 n3 c3 n4 c4 w h1 h2 m1 m2 m3 m4 hk hs sk ssz
  unfold maxLen at m1 m2 m3 m4
  have HK : Hid (HasV w a1 (ks.map Value.string)) := hk
  have HS : Hid (HasV w a2 (ss.map Value.string)) := hs
  have HU : Hid (HasV w a3 (us.map fun u : Nat => Value.int .u64 (u : Int))) := hu
  have HZ : Hid (Has w a4 wz) := hz
  have H1 : Hid (ks.length = n1) := h1
  have H2 : Hid (ss.length = n2) := h2
  have H3 : Hid (us.length = n3) := h3
  have H4 : Hid (wz.length = n4) := h4
  have HN1 : Hid (a1 = none → c1 = 0) := hn1
  have HN2 : Hid (a2 = none → c2 = 0) := hn2
  have HN3 : Hid (a3 = none → c3 = 0) := hn3
  have HN4 : Hid (a4 = none → c4 = 0) := hn4
  have HUB : Hid (∀ u ∈ us, u < 18446744073709551616) := hub
  have HBY : Hid (Byt wz) := hby
  clear hk hs hu hz h1 h2 h3 h4 hn1 hn2 hn3 hn4 sk ssz hub hby
  go_enter Try.func6, Try.ntmps6
  go_wp2_with fail
  refine Calls.mono HBy.out ?_
  rintro e w' ⟨bb, rfl, rfl, hbb⟩
  clear HBy
  cases bb
  · go_wp2
    go_ret
    exact ⟨rfl, Below.refl _ _⟩
  have HBK : Hid (∀ s ∈ ks, s.size ≤ 1048576) := (hbb rfl).1
  have HBS : Hid (∀ s ∈ ss, s.size ≤ 1048576) := (hbb rfl).2
  clear hbb
  by_cases b1 : (65536 : Int) < n1
  · go_wp2
    go_ret
    exact ⟨rfl, Below.refl _ _⟩
  by_cases b2 : (65536 : Int) < n2
  · go_wp2
    go_ret
    exact ⟨rfl, Below.refl _ _⟩
  by_cases b3 : (65536 : Int) < n3
  · go_wp2
    go_ret
    exact ⟨rfl, Below.refl _ _⟩
  by_cases b4 : (65536 : Int) < n4
  · go_wp2
    go_ret
    exact ⟨rfl, Below.refl _ _⟩
  by_cases bt : (1048576 : Int) < 64 * n1 + 16 * n2 + 8 * n3 + n4
  · go_wp2
    go_ret
    exact ⟨rfl, Below.refl _ _⟩
  go_wp2
  go_loop [9, 10] (fun x y => ∃ (t : Int) (k : Nat), 0 ≤ t ∧ t ≤ 1048576 ∧ k ≤ n1 ∧ x = .int .i64 t ∧ y = .int .i64 k) (fun _ y => n1 - (intOf y).toNat)
  case atStart => exact ⟨_, 0, by omega, by omega, by omega, rfl, rfl⟩
  case round =>
    obtain ⟨t, k, t0, t1, hk, rfl, rfl⟩ := hrel
    by_cases hlt : k < n1
    · obtain ⟨s, hs⟩ : ∃ s, ks[k]? = some s := ⟨_, List.getElem?_eq_getElem (by rw [H1.out]; exact hlt)⟩
      rcases HK.out with h | ⟨b, off, rfl, hc⟩
      · have : ks = [] := by simpa using h
        rw [this] at hs; simp at hs
      · have hcell : w.cell? ⟨b, off + k, none⟩ = some (.string s) := hc k _ (by rw [List.getElem?_map, hs]; rfl)
        have hsz : s.size ≤ 1048576 := HBK.out s (List.mem_of_getElem? hs)
        clear hc hs
        by_cases g2 : (1048576 : Int) < t + s.size
        · go_wp2
          go_ret
          exact ⟨rfl, Below.refl _ _⟩
        · go_wp2
          go_round
          case rel => exact ⟨t + s.size, k + 1, by omega, by omega, by omega, by go_num, by go_num⟩
          case measure => simp [intOf]; omega
    · have hge : (n1 : Int) ≤ (k : Int) := by omega
      go_wp2
      go_loop [9, 11] (fun x y => ∃ (t : Int) (k : Nat), 0 ≤ t ∧ t ≤ 1048576 ∧ k ≤ n2 ∧ x = .int .i64 t ∧ y = .int .i64 k) (fun _ y => n2 - (intOf y).toNat)
      case atStart => exact ⟨_, 0, by omega, by omega, by omega, rfl, rfl⟩
      case round =>
        obtain ⟨t, k, t0, t1, hk, rfl, rfl⟩ := hrel
        by_cases hlt : k < n2
        · obtain ⟨s, hs⟩ : ∃ s, ss[k]? = some s := ⟨_, List.getElem?_eq_getElem (by rw [H2.out]; exact hlt)⟩
          rcases HS.out with h | ⟨b, off, rfl, hc⟩
          · have : ss = [] := by simpa using h
            rw [this] at hs; simp at hs
          · have hcell : w.cell? ⟨b, off + k, none⟩ = some (.string s) := hc k _ (by rw [List.getElem?_map, hs]; rfl)
            have hsz : s.size ≤ 1048576 := HBS.out s (List.mem_of_getElem? hs)
            clear hc hs
            by_cases g2 : (1048576 : Int) < t + s.size
            · go_wp2
              go_ret
              exact ⟨rfl, Below.refl _ _⟩
            · go_wp2
              go_round
              case rel => exact ⟨t + s.size, k + 1, by omega, by omega, by omega, by go_num, by go_num⟩
              case measure => simp [intOf]; omega
        · have hge : (n2 : Int) ≤ (k : Int) := by omega
          go_wp2_with fail
          refine (zzCloneStrings_has a1 n1 c1 ks w H1.out (by omega) HN1.out HK.out).mono ?_
          rintro e w1 ⟨a1', c1', rfl, hk1, hb1⟩
          have HB1 : Hid (Below w.heap.size w w1) := hb1
          have HK1 : Hid (HasV w1 a1' (ks.map Value.string)) := hk1
          clear hk1 hb1
          go_wp2_with fail
          refine (zzCloneStrings_has a2 n2 c2 ss w1 H2.out (by omega) HN2.out (HS.out.below HB1.out)).mono ?_
          rintro e w2 ⟨a2', c2', rfl, hk2, hb2⟩
          have HB2 : Hid (Below w.heap.size w w2) := HB1.out.trans (hb2.mono HB1.out.size)
          have HK2 : Hid (HasV w2 a1' (ks.map Value.string) ∧ HasV w2 a2' (ss.map Value.string)) := ⟨HK1.out.below hb2, hk2⟩
          clear hk2 hb2 HK1 HB1
          go_wp2_with fail
          refine (zzCloneUints_has a3 n3 c3 us w2 H3.out (by omega) HN3.out (HU.out.below HB2.out)).mono ?_
          rintro e w3 ⟨a3', c3', rfl, hk3, hb3⟩
          have HB3 : Hid (Below w.heap.size w w3) := HB2.out.trans (hb3.mono HB2.out.size)
          have HK3 : Hid (HasV w3 a1' (ks.map Value.string) ∧ HasV w3 a2' (ss.map Value.string) ∧ HasV w3 a3' (us.map fun u : Nat => Value.int .u64 (u : Int))) := ⟨HK2.out.1.below hb3, HK2.out.2.below hb3, hk3⟩
          clear hk3 hb3 HK2 HB2
          go_wp2_with fail
          refine (fnValueCaseFlipKeepsTheClass.zzClone_has a4 n4 c4 wz w3 H4.out (by omega) HN4.out (HZ.out.below HB3.out)).mono ?_
          rintro e w4 ⟨a4', c4', rfl, hk4, hb4⟩
          have HB4 : Hid (Below w.heap.size w w4) := HB3.out.trans (hb4.mono HB3.out.size)
          have HK4 : Hid (HasV w4 a1' (ks.map Value.string) ∧ HasV w4 a2' (ss.map Value.string) ∧ HasV w4 a3' (us.map fun u : Nat => Value.int .u64 (u : Int)) ∧ Has w4 a4' wz) := ⟨HK3.out.1.below hb4, HK3.out.2.1.below hb4, HK3.out.2.2.below hb4, hk4⟩
          clear hk4 hb4 HK3 HB3 HK HS HU HZ HN1 HN2 HN3 HN4
          have HWs : Hid (∀ (wx : World) (v : Value) (zs : List Int) (s : Nat), Below w4.heap.size w4 wx → Row wx v zs → zs.length ≤ 1099511627776 → s ≤ 9223372036854775807 → Calls Try.prog 23 #[v, .slice a4' n4 c4', .int .i64 s] wx (AppPost wx v (zs ++ wsAt wz s))) :=
            fun wx v zs s hb hr hl hs => zzAppendWs_any v zs a4' n4 c4' s wz wx hr hl H4.out (by unfold maxLen; omega) HBY.out (HK4.out.2.2.2.below hb) hs
          have HTk : Hid (∀ (wx : World) (j : Nat), Below w4.heap.size w4 wx → j ≤ 65536 → Calls Try.prog 25 #[.int .i64 j, .slice a2' n2 c2', .slice a3' n3 c3'] wx (Fresh wx (tokOf ss us j))) :=
            fun wx j hb hj => zzToken_any j a2' a3' n2 c2' n3 c3' ss us wx (by omega) H2.out H3.out (by unfold maxLen; omega) (by unfold maxLen; omega) (fun s hs => by have := HBS.out s hs; omega) HUB.out (HK4.out.2.1.below hb) (HK4.out.2.2.1.below hb)
          have HKy : Hid (∀ wx : World, Below w4.heap.size w4 wx → HasV wx a1' (ks.map Value.string)) := fun wx hb => HK4.out.1.below hb
          obtain ⟨mk, hmk⟩ : ∃ mk, mk = mkP ks ss us wz := ⟨_, rfl⟩
          have HMk : Hid (mk = mkP ks ss us wz) := hmk
          have HMl : Hid (∀ j, (mk j).W0.length ≤ 4 ∧ (mk j).K.length ≤ 1048576 ∧ (mk j).W1.length ≤ 4 ∧ (mk j).W2.length ≤ 4 ∧ (mk j).T.length ≤ 1048578 ∧ (mk j).W3.length ≤ 4) := by
            intro j
            rw [hmk]
            refine ⟨wsAt_len _ _, ?_, wsAt_len _ _, wsAt_len _ _, tokOf_len ss us j 1048578 (by decide) (fun s hs => by have := HBS.out s hs; omega), wsAt_len _ _⟩
            show (pbs (ks.getD j .empty)).length ≤ _
            rw [pbs_len, List.getD_eq_getElem?_getD]
            cases h : ks[j]? with
            | none => decide
            | some s => exact HBK.out s (List.mem_of_getElem? h)
          have HPl : Hid (∀ j, (pre mk j).length ≤ j * 2097200) := pre_len mk (fun j => by
            have := HMl.out j
            unfold body
            simp only [List.length_append, List.length_cons]
            omega)
          clear hmk
          go_wp2_with fail
          obtain ⟨Wc, hWc⟩ : ∃ Wc : World, Wc = (((w4.alloc (.cells #[.int .i64 0, .int .i64 0, .int .i64 0, .int .i64 0, .int .i64 0, .int .i64 0] 38)).alloc (.cells #[.slice none 0 0, .slice none 0 0, .slice none 0 0, .slice none 0 0, .slice none 0 0, .slice none 0 0] 39)).alloc (.cells #[.int .u8 123] 5)) := ⟨_, rfl⟩
          obtain ⟨T, hT⟩ : ∃ T, T = w4.heap.size := ⟨_, rfl⟩
          have HT : Hid (T = w4.heap.size) := hT
          obtain ⟨v0, hv0⟩ : ∃ v0, v0 = Value.slice (some ⟨T + 1 + 1, 0, none⟩) 1 1 := ⟨_, rfl⟩
          have HLI0 : Hid (LI w4 T (slots mk 0) 0 Wc v0 [123]) := by
            have e1 : Wc.heap[T]? = some (.cells #[.int .i64 0, .int .i64 0, .int .i64 0, .int .i64 0, .int .i64 0, .int .i64 0] 38 (0, 0)) := by
              rw [hWc, hT]; exact (Below.heap_alloc _ _ _ (by simp; omega)).trans ((Below.heap_alloc _ _ _ (by simp)).trans (heap_alloc_new w4 _))
            have e2 : Wc.heap[T + 1]? = some (.cells #[.slice none 0 0, .slice none 0 0, .slice none 0 0, .slice none 0 0, .slice none 0 0, .slice none 0 0] 39 (0, 0)) := by
              rw [hWc, hT]; refine (Below.heap_alloc _ _ _ (by simp)).trans ?_
              have := heap_alloc_new (w4.alloc (.cells #[.int .i64 0, .int .i64 0, .int .i64 0, .int .i64 0, .int .i64 0, .int .i64 0] 38)) (.cells #[.slice none 0 0, .slice none 0 0, .slice none 0 0, .slice none 0 0, .slice none 0 0, .slice none 0 0] 39)
              simpa using this
            refine ⟨?_, ?_, ⟨T + 1 + 1, by rw [hv0]; rfl, Nat.le_refl _⟩, fun _ => 0, fun _ => none, fun _ => 0, fun _ => 0, ?_, ?_, ?_⟩
            · rw [hWc, hT]; exact (((Below.refl _ _).alloc (Nat.le_refl _) _).alloc (by simp) _).alloc (by simp; omega) _
            · have := row_lit ((w4.alloc (.cells #[.int .i64 0, .int .i64 0, .int .i64 0, .int .i64 0, .int .i64 0, .int .i64 0] 38)).alloc (.cells #[.slice none 0 0, .slice none 0 0, .slice none 0 0, .slice none 0 0, .slice none 0 0, .slice none 0 0] 39)) [123] (by decide)
              rw [hv0, hWc, hT]
              simpa using this
            · exact Ob.of_lit 38 Wc T _ _ e1 rfl rfl
            · exact Ob.of_lit 39 Wc (T + 1) _ _ e2 rfl rfl
            · intro n hn
              exact ⟨Nat.le_refl _, rfl, rfl, fun h => absurd h (Nat.lt_irrefl 0)⟩
          rw [← hWc]
          rw [← hT, ← hv0]
          rw [← hT] at HWs HTk HKy
          clear hWc hT hv0
          refine (HWs.out Wc v0 [123] 0 HLI0.out.below HLI0.out.row (by decide) (by decide)).mono ?_
          rintro e w5 ⟨v5, rfl, hrow, hpush⟩
          have HL5 : Hid (LI w4 T (slots mk 0) 0 w5 v5 ([123] ++ wsAt wz 0)) := HLI0.out.push hpush hrow
          clear hrow hpush HLI0
          go_wp2
          go_loopw [14, 15, 16, 17] (fun rf sl tv jv wr => ∃ (j s : Nat) (r : Bool), j ≤ n1 ∧ s ≤ 262145 ∧ rf = .bool r ∧ sl = .int .i64 s ∧ jv = .int .i64 j ∧ Hid (s = (if j = 0 then 1 else 4 * j) ∧ r = !allOk mk j ∧ LI w4 T (slots mk j) j wr tv ([123] ++ wsAt wz 0 ++ pre mk j))) (fun _ _ _ jv _ => n1 - (intOf jv).toNat)
          case atStart => exact ⟨0, 1, false, by omega, by omega, rfl, rfl, rfl, rfl, rfl, by simpa [pre] using HL5.out⟩
          case round =>
            clear HL5
            obtain ⟨j, s, r, hj, hsb, rfl, rfl, rfl, H⟩ := hrel
            obtain ⟨hsl, hr, hLI⟩ := H.out
            obtain ⟨σ, hσ⟩ : ∃ σ, σ = slots mk j := ⟨_, rfl⟩
            obtain ⟨A, hA⟩ : ∃ A, A = [123] ++ wsAt wz 0 ++ pre mk j := ⟨_, rfl⟩
            rw [← hσ, ← hA] at hLI
            have HLI : Hid (LI w4 T σ j wr u16 A) := hLI
            have HSl : Hid (s = (if j = 0 then 1 else 4 * j)) := hsl
            have HRf : Hid (r = !allOk mk j) := hr
            have HSg : Hid (σ = slots mk j) := hσ
            have HA : Hid (A = [123] ++ wsAt wz 0 ++ pre mk j) := hA
            have HAl : Hid (A.length ≤ 137442099210) := by
              have h1 := HPl.out j
              have h2 := wsAt_len wz 0
              show _ ≤ _
              rw [hA]
              simp only [List.length_append, List.length_cons, List.length_nil]
              have : j * 2097200 ≤ 65536 * 2097200 := Nat.mul_le_mul_right _ (by omega)
              omega
            clear H hsl hr hLI hσ hA
            by_cases hlt : j < n1
            · obtain ⟨kj, hkj⟩ : ∃ kj, ks[j]? = some kj := ⟨_, List.getElem?_eq_getElem (by rw [H1.out]; exact hlt)⟩
              have hkz : kj.size ≤ 1048576 := HBK.out kj (List.mem_of_getElem? hkj)
              have HKj : Hid (ks[j]? = some kj) := hkj
              have HKe : Hid ((mk j).K = pbs kj) := by
                show _ = _
                rw [HMk.out]
                show pbs (ks.getD j .empty) = _
                rw [List.getD_eq_getElem?_getD, hkj]; rfl
              obtain ⟨kbk, koff, hka⟩ : ∃ b off, a1' = some ⟨b, off, none⟩ := by
                rcases HKy.out wr HLI.out.below with h | ⟨b, off, e, _⟩
                · have : ks = [] := by simpa using h
                  rw [this] at hkj; simp at hkj
                · exact ⟨b, off, e⟩
              have hcellA : Hid (∀ wx : World, Below T w4 wx → wx.cell? ⟨kbk, koff + j, none⟩ = some (.string kj)) := by
                intro wx hb
                rcases HKy.out wx hb with h | ⟨b, off, e, hc⟩
                · have : ks = [] := by simpa using h
                  rw [this] at hkj; simp at hkj
                · rw [hka] at e; cases e
                  exact hc j _ (by rw [List.getElem?_map, hkj]; rfl)
              subst hka
              clear hkj
              have HML := HMl.out j
              have HXs : Hid (HML.1 = HML.1) := rfl
              clear HXs
              by_cases hj0 : j = 0
              · have hjz : (j : Int) ≤ 0 := by omega
                have HJ0 : Hid (j = 0) := hj0
                have hcell := hcellA.out wr HLI.out.below
                obtain ⟨A1, hA1⟩ : ∃ A1, A1 = A := ⟨_, rfl⟩
                have HA1 : Hid (A1 = A ++ (if j = 0 then [] else 44 :: (mk j).W0)) := by show _ = _; rw [if_pos hj0, List.append_nil, hA1]
                have HLn : Hid (A1.length ≤ 137442099215 ∧ (pbs kj).length ≤ 1048576) := ⟨by rw [hA1]; have := HAl.out; omega, by rw [pbs_len]; exact hkz⟩
                have hs1 : Hid (s = 4 * j + 1) := by show _ = _; rw [HSl.out, if_pos hj0]; omega
                have HLA : Hid (LI w4 T σ j wr u16 A1) := by show LI _ _ _ _ _ _ _; rw [hA1]; exact HLI.out
                clear hA1 HLI HML hj0
                go_wp2_with fail
                refine (zzPlainBytes_any kj wr (by omega)).mono ?_
                rintro e wB ⟨rfl, hrowK, hbelB⟩
                have HLB : Hid (LI w4 T σ j wB u16 A1) := HLA.out.later hbelB
                have HKB : Hid (Side wB u16 wr.heap.size (pbs kj)) := ⟨Row.at hrowK, Row.lt_size hrowK, fun e => Nat.lt_irrefl _ (HLA.out.row.lt e)⟩
                clear hrowK hbelB hcell
                obtain ⟨kb, hkb⟩ : ∃ kb, kb = wr.heap.size := ⟨_, rfl⟩
                obtain ⟨kv, hkv⟩ : ∃ kv, kv = newRow wr kj.size := ⟨_, rfl⟩
                have HKV : Hid (kv = .slice (some ⟨kb, 0, none⟩) kj.size kj.size) := by show _ = _; rw [hkv, hkb]
                rw [← hkb] at HKB
                rw [← hkv]
                clear hkb hkv HLA
                obtain ⟨K, hK⟩ : ∃ K, K = pbs kj := ⟨_, rfl⟩
                have HKK : Hid (K = pbs kj ∧ K.length = kj.size) := ⟨hK, by rw [hK, pbs_len]⟩
                rw [← hK] at HLn
                rw [← hK] at HKB
                clear hK
                go_wp2_with (first
                  | (at_builtin
                     refine wpList_append_mine _ rfl _ _ rfl u16 (A1) [34] rfl (HLB.out.row.alloc _) ⟨wB.heap.size, 0, none⟩ 1 1 rfl rfl (lit_cells wB [34] 5) (by have := HLn.out; (try simp only [List.length_append, List.length_cons, List.length_nil]); omega) ?_
                     intro vC wC hrow hpush
                     have HLC : Hid (LI w4 T σ j wC vC (A1 ++ [34])) := HLB.out.push (hpush.alloc _) hrow
                     have HKC : Hid (Side wC vC kb K) := HKB.out.push (hpush.alloc _)
                     clear hrow hpush)
                  | (at_builtin
                     refine wpList_append_mine _ rfl _ _ rfl vC (A1 ++ [34]) K rfl HLC.out.row ⟨kb, 0, none⟩ kj.size kj.size HKV.out HKK.out.2 HKC.out.1.cells (by have := HLn.out; (try simp only [List.length_append, List.length_cons, List.length_nil]); omega) ?_
                     intro vD wD hrow hpush
                     have HLD : Hid (LI w4 T σ j wD vD (A1 ++ [34] ++ K)) := HLC.out.push hpush hrow
                     have HKD : Hid (Side wD vD kb K) := HKC.out.push hpush
                     clear hrow hpush)
                  | (at_builtin
                     refine wpList_append_mine _ rfl _ _ rfl vD (A1 ++ [34] ++ K) [34] rfl (HLD.out.row.alloc _) ⟨wD.heap.size, 0, none⟩ 1 1 rfl rfl (lit_cells wD [34] 5) (by have := HLn.out; (try simp only [List.length_append, List.length_cons, List.length_nil]); omega) ?_
                     intro vE wE hrow hpush
                     have HLE : Hid (LI w4 T σ j wE vE (A1 ++ [34] ++ K ++ [34])) := HLD.out.push (hpush.alloc _) hrow
                     have HKE : Hid (Side wE vE kb K) := HKD.out.push (hpush.alloc _)
                     clear hrow hpush))
                refine (HWs.out wE vE (A1 ++ [34] ++ K ++ [34]) s HLE.out.below HLE.out.row (by have := HLn.out; (try simp only [List.length_append, List.length_cons, List.length_nil]); omega) (by omega)).mono ?_
                rintro e wF ⟨vF, rfl, hrow, hpush⟩
                obtain ⟨X1, hX1⟩ : ∃ X, X = wsAt wz s := ⟨_, rfl⟩
                have HX1 : Hid (X1 = wsAt wz s) := hX1
                rw [← hX1] at hrow
                have HLn : Hid (_ ∧ X1.length ≤ 4) := ⟨HLn.out, by rw [hX1]; exact wsAt_len _ _⟩
                have HLF : Hid (LI w4 T σ j wF vF (A1 ++ [34] ++ K ++ [34] ++ X1)) := HLE.out.push hpush hrow
                have HKF : Hid (Side wF vF kb K) := HKE.out.push hpush
                clear hrow hpush hX1 HLE

                clear HLB HLC HLD HKB HKC HKD HKE
                obtain ⟨s2, hs2⟩ : ∃ s2 : Nat, s2 = s + 1 := ⟨_, rfl⟩
                have HS2 : Hid (s2 = s + 1) := hs2
                have hs2b : s2 ≤ 262150 := by omega
                have hs2e : (s : Int) + 1 = (s2 : Int) := by omega
                clear hs2
                go_wp2_with (at_builtin
                             refine wpList_append_mine _ rfl _ _ rfl vF (A1 ++ [34] ++ K ++ [34] ++ X1) [58] rfl (HLF.out.row.alloc _) ⟨wF.heap.size, 0, none⟩ 1 1 rfl rfl (lit_cells wF [58] 5) (by have := HLn.out; (try simp only [List.length_append, List.length_cons, List.length_nil]); omega) ?_
                             intro vG wG hrow hpush
                             have HLG : Hid (LI w4 T σ j wG vG (A1 ++ [34] ++ K ++ [34] ++ X1 ++ [58])) := HLF.out.push (hpush.alloc _) hrow
                             have HKG : Hid (Side wG vG kb K) := HKF.out.push (hpush.alloc _)
                             clear hrow hpush)
                try rw [hs2e]
                clear hs2e
                refine (HWs.out wG vG (A1 ++ [34] ++ K ++ [34] ++ X1 ++ [58]) s2 HLG.out.below HLG.out.row (by have := HLn.out; (try simp only [List.length_append, List.length_cons, List.length_nil]); omega) (by omega)).mono ?_
                rintro e wH ⟨vH, rfl, hrow, hpush⟩
                obtain ⟨X2, hX2⟩ : ∃ X, X = wsAt wz s2 := ⟨_, rfl⟩
                have HX2 : Hid (X2 = wsAt wz s2) := hX2
                rw [← hX2] at hrow
                have HLn : Hid (_ ∧ X2.length ≤ 4) := ⟨HLn.out, by rw [hX2]; exact wsAt_len _ _⟩
                have HLH : Hid (LI w4 T σ j wH vH (A1 ++ [34] ++ K ++ [34] ++ X1 ++ [58] ++ X2)) := HLG.out.push hpush hrow
                have HKH : Hid (Side wH vH kb K) := HKG.out.push hpush
                clear hrow hpush hX2 HLG

                clear HLF HKF HKG
                obtain ⟨s3, hs3⟩ : ∃ s3 : Nat, s3 = s2 + 1 := ⟨_, rfl⟩
                have HS3 : Hid (s3 = s2 + 1) := hs3
                have hs3b : s3 ≤ 262151 := by omega
                have hs3e : (s2 : Int) + 1 = (s3 : Int) := by omega
                clear hs3
                go_wp2_with fail
                try rw [hs3e]
                clear hs3e
                refine (HTk.out wH j HLH.out.below (by omega)).mono ?_
                rintro e wI ⟨vt, rfl, hrowT, hbelT, hownT⟩
                obtain ⟨Tk, hTk⟩ : ∃ Tk, Tk = tokOf ss us j := ⟨_, rfl⟩
                have HTe : Hid ((mk j).T = Tk ∧ 0 < Tk.length ∧ Tk.length ≤ 1048578) := by
                  have h := (HMl.out j).2.2.2.2.1
                  have e : (mk j).T = Tk := by rw [HMk.out, hTk]; rfl
                  rw [e] at h
                  exact ⟨e, by rw [hTk]; exact (tokOf_isT ss us j HUB.out).pos, h⟩
                rw [← hTk] at hrowT
                clear hTk
                obtain ⟨q, capT, hvt, hatT, hltT⟩ : ∃ q capT, vt = .slice (some ⟨q, 0, none⟩) Tk.length capT ∧ At wI q 0 Tk ∧ q < wI.heap.size := by
                  rcases hrowT.len with ⟨_, h⟩ | h
                  · have := HTe.out.2.1; rw [h] at this; simp at this
                  · exact h
                have hqo : wH.heap.size ≤ q := hownT q (by rw [hvt]; rfl)
                have HQ : Hid (T + 2 ≤ q) := Nat.le_trans HLH.out.size2 hqo
                have HTI : Hid (Side wI vH q Tk) := ⟨hatT, hltT, fun e => by have := HLH.out.row.lt e; omega⟩
                have HLI2 : Hid (LI w4 T σ j wI vH (A1 ++ [34] ++ K ++ [34] ++ X1 ++ [58] ++ X2)) := HLH.out.later hbelT
                have HKI : Hid (Side wI vH kb K) := HKH.out.later hbelT
                have HLn : Hid (_ ∧ Tk.length ≤ 1048578) := ⟨HLn.out, HTe.out.2.2⟩
                subst hvt
                clear hrowT hbelT hownT hatT hltT hqo HLH HKH
                obtain ⟨tl, htl⟩ : ∃ tl, tl = Tk.length := ⟨_, rfl⟩
                have HTl : Hid (Tk.length = tl) := htl.symm
                rw [← htl]
                clear htl
                go_wp2_with (at_builtin
                             refine wpList_append_mine _ rfl _ _ rfl vH (A1 ++ [34] ++ K ++ [34] ++ X1 ++ [58] ++ X2) Tk rfl HLI2.out.row ⟨q, 0, none⟩ tl capT rfl HTl.out HTI.out.1.cells (by have := HLn.out; have := HTl.out; (try simp only [List.length_append, List.length_cons, List.length_nil]); omega) ?_
                             intro vJ wJ hrow hpush
                             have HLJ : Hid (LI w4 T σ j wJ vJ (A1 ++ [34] ++ K ++ [34] ++ X1 ++ [58] ++ X2 ++ Tk)) := HLI2.out.push hpush hrow
                             have HKJ : Hid (Side wJ vJ kb K) := HKI.out.push hpush
                             have HTJ : Hid (Side wJ vJ q Tk) := HTI.out.push hpush
                             clear hrow hpush)
                refine (HWs.out wJ vJ (A1 ++ [34] ++ K ++ [34] ++ X1 ++ [58] ++ X2 ++ Tk) s3 HLJ.out.below HLJ.out.row (by have := HLn.out; (try simp only [List.length_append, List.length_cons, List.length_nil]); omega) (by omega)).mono ?_
                rintro e wL ⟨vL, rfl, hrow, hpush⟩
                obtain ⟨X3, hX3⟩ : ∃ X, X = wsAt wz s3 := ⟨_, rfl⟩
                have HX3 : Hid (X3 = wsAt wz s3) := hX3
                rw [← hX3] at hrow
                have HLn : Hid (_ ∧ X3.length ≤ 4) := ⟨HLn.out, by rw [hX3]; exact wsAt_len _ _⟩
                have HLL : Hid (LI w4 T σ j wL vL (A1 ++ [34] ++ K ++ [34] ++ X1 ++ [58] ++ X2 ++ Tk ++ X3)) := HLJ.out.push hpush hrow
                have HKL : Hid (Side wL vL kb K) := HKJ.out.push hpush
                have HTL : Hid (Side wL vL q Tk) := HTJ.out.push hpush
                clear hrow hpush hX3 HLJ

                clear HLI2 HKI HTI HKJ HTJ
                go_wp2_with fail
                have hKI : Calls Try.prog 26 #[kv] wL fun e w' => e = .returned (.tuple #[.int .i64 (zIdx K), .bool (vFold K)]) ∧ ∃ m, w' = wL.drewN m := by
                  rw [HKV.out]
                  exact zzKeyIndex_any (some ⟨kb, 0, none⟩) kj.size kj.size K wL HKK.out.2 (by unfold maxLen; omega) (by rw [HKK.out.1]; exact good_byt (pbs_good kj)) (.inr ⟨kb, 0, rfl, HKL.out.1⟩)
                refine hKI.mono ?_
                clear hKI
                rintro e w' ⟨rfl, m, hm⟩
                have HLM : Hid (LI w4 T σ j w' vL (A1 ++ [34] ++ K ++ [34] ++ X1 ++ [58] ++ X2 ++ Tk ++ X3)) := HLL.out.later (by rw [hm]; exact below_drewN (Below.refl _ _) m)
                have HTM : Hid (Side w' vL q Tk) := HTL.out.later (by rw [hm]; exact below_drewN (Below.refl _ _) m)
                clear hm HLL HTL HKL
                obtain ⟨B, hBB⟩ : ∃ B, B = A1 ++ [34] ++ K ++ [34] ++ X1 ++ [58] ++ X2 ++ Tk ++ X3 := ⟨_, rfl⟩
                rw [← hBB] at HLM
                have HBe : Hid (B = [123] ++ wsAt wz 0 ++ pre mk (j + 1)) := by
                  show _ = _
                  have e1 : (mk j).W1 = X1 := by rw [HX1.out, hs1.out, HMk.out]; rfl
                  have e2 : (mk j).W2 = X2 := by rw [HX2.out, HS2.out, hs1.out, HMk.out]; rfl
                  have e3 : (mk j).W3 = X3 := by rw [HX3.out, HS3.out, HS2.out, hs1.out, HMk.out]; rfl
                  have e4 : (mk j).K = K := HKe.out.trans HKK.out.1.symm
                  rw [hBB, HA1.out, HA.out, pre, body, e1, e2, e3, e4, HTe.out.1]
                  simp [List.append_assoc]
                clear hBB
                obtain ⟨s4, hs4⟩ : ∃ s4 : Nat, s4 = s3 + 1 := ⟨_, rfl⟩
                have HS4 : Hid (s4 = (if j + 1 = 0 then 1 else 4 * (j + 1))) := by
                  show _ = _
                  have := HS3.out; have := HS2.out; have := hs1.out
                  rw [if_neg (by omega)]; omega
                have hs4b : s4 ≤ 262145 := by have := HS3.out; have := HS2.out; have := hs1.out; omega
                have hs4e : (s3 : Int) + 1 = (s4 : Int) := by omega
                clear hs4
                obtain ⟨fd, hfd⟩ : ∃ fd, fd = vFold K := ⟨_, rfl⟩
                have HFd : Hid (fd = vFold K) := hfd
                rw [← hfd]
                clear hfd
                have e4 : Hid ((mk j).K = K) := HKe.out.trans HKK.out.1.symm
                cases hv : vIdx K with
                | some nn =>
                  have hnn := vIdx_lt hv
                  have hz : zIdx K = (nn : Int) := by unfold zIdx; rw [hv]
                  rw [hz]
                  obtain ⟨cn, la, ln, lc, o1, o2, hmem⟩ := HLM.out.mem
                  obtain ⟨d, hd⟩ : ∃ d : Nat, d = cn nn := ⟨_, rfl⟩
                  have hdb : d ≤ 65536 := by rw [hd]; have := (hmem nn hnn).1; omega
                  have k1 : w'.cell? ⟨T, nn, none⟩ = some (.int .i64 (d : Int)) := by rw [hd]; exact o1.cell nn hnn
                  have k2 := o2.cell nn hnn
                  have k3 := o1.frozen nn
                  have k4 := o2.frozen nn
                  have HH : Hid (LI w4 T (setS σ nn Tk) (j + 1) ((w'.setCell ⟨T, nn, none⟩ (.int .i64 ((d : Int) + 1))).setCell ⟨T + 1, nn, none⟩ (.slice (some ⟨q, 0, none⟩) tl capT)) vL B) := by
                    have := HLM.out.hit (cap := capT) hnn HTM.out HQ.out k1
                    rw [HTl.out] at this
                    exact this
                  have HVI : Hid (vIdx K = some nn) := hv
                  clear hd hmem o1 o2 hv hz HLM HTM
                  go_wp2
                  go_roundw
                  case rel =>
                    refine ⟨j + 1, s4, r, by omega, hs4b, rfl, by first | rfl | rw [hs4e], by go_num, HS4.out, ?_, ?_⟩
                    · rw [HRf.out, allOk, e4.out]; unfold vOk; rw [HVI.out]; simp
                    · rw [← HBe.out, slots, ← HSg.out]; unfold stepP; rw [e4.out, HVI.out, HTe.out.1]; exact HH.out
                  case measure => simp [intOf]; omega
                | none =>
                  have hz : zIdx K = -1 := by unfold zIdx; rw [hv]
                  rw [hz]
                  have HVI : Hid (vIdx K = none) := hv
                  have HH : Hid (LI w4 T σ (j + 1) w' vL B) := HLM.out.step
                  clear hv hz HLM HTM
                  cases fd
                  · go_wp2
                    go_roundw
                    case rel =>
                      refine ⟨j + 1, s4, r, by omega, hs4b, rfl, by first | rfl | rw [hs4e], by go_num, HS4.out, ?_, ?_⟩
                      · rw [HRf.out, allOk, e4.out]; unfold vOk; rw [HVI.out, ← HFd.out]; simp
                      · rw [← HBe.out, slots, ← HSg.out]; unfold stepP; rw [e4.out, HVI.out]; exact HH.out
                    case measure => simp [intOf]; omega
                  · go_wp2
                    go_roundw
                    case rel =>
                      refine ⟨j + 1, s4, true, by omega, hs4b, rfl, by first | rfl | rw [hs4e], by go_num, HS4.out, ?_, ?_⟩
                      · rw [allOk, e4.out]; unfold vOk; rw [HVI.out, ← HFd.out]; simp
                      · rw [← HBe.out, slots, ← HSg.out]; unfold stepP; rw [e4.out, HVI.out]; exact HH.out
                    case measure => simp [intOf]; omega
              · have hjp : (0 : Int) < (j : Int) := by omega
                have HLn : Hid (A.length ≤ 137442099210 ∧ (pbs kj).length ≤ 1048576) := ⟨HAl.out, by rw [pbs_len]; exact hkz⟩
                clear HML
                go_wp2_with (at_builtin
                             refine wpList_append_mine _ rfl _ _ rfl u16 (A) [44] rfl (HLI.out.row.alloc _) ⟨wr.heap.size, 0, none⟩ 1 1 rfl rfl (lit_cells wr [44] 5) (by have := HLn.out; (try simp only [List.length_append, List.length_cons, List.length_nil]); omega) ?_
                             intro v1 w1 hrow hpush
                             have HL1 : Hid (LI w4 T σ j w1 v1 (A ++ [44])) := HLI.out.push (hpush.alloc _) hrow
                             skip
                             clear hrow hpush)
                refine (HWs.out w1 v1 (A ++ [44]) s HL1.out.below HL1.out.row (by have := HLn.out; (try simp only [List.length_append, List.length_cons, List.length_nil]); omega) (by omega)).mono ?_
                rintro e w2 ⟨v2, rfl, hrow, hpush⟩
                obtain ⟨X0, hX0⟩ : ∃ X, X = wsAt wz s := ⟨_, rfl⟩
                have HX0 : Hid (X0 = wsAt wz s) := hX0
                rw [← hX0] at hrow
                have HLn : Hid (_ ∧ X0.length ≤ 4) := ⟨HLn.out, by rw [hX0]; exact wsAt_len _ _⟩
                have HL2 : Hid (LI w4 T σ j w2 v2 (A ++ [44] ++ X0)) := HL1.out.push hpush hrow
                clear hrow hpush hX0 HL1
                obtain ⟨s1, hs1'⟩ : ∃ s1 : Nat, s1 = s + 1 := ⟨_, rfl⟩
                have hs1 : Hid (s1 = 4 * j + 1) := by show _ = _; rw [hs1', HSl.out, if_neg hj0]
                have hs1b : s1 ≤ 262146 := by omega
                have hs1e : (s : Int) + 1 = (s1 : Int) := by omega
                obtain ⟨A1, hA1⟩ : ∃ A1, A1 = A ++ [44] ++ X0 := ⟨_, rfl⟩
                have HA1 : Hid (A1 = A ++ (if j = 0 then [] else 44 :: (mk j).W0)) := by
                  show _ = _
                  have e0 : (mk j).W0 = X0 := by rw [HX0.out, HSl.out, if_neg hj0, HMk.out]; rfl
                  rw [if_neg hj0, e0, hA1]; simp
                have HLn : Hid (A1.length ≤ 137442099215 ∧ (pbs kj).length ≤ 1048576) := ⟨by rw [hA1]; have := HLn.out; simp only [List.length_append, List.length_cons, List.length_nil]; omega, HLn.out.1.2⟩
                have HLA : Hid (LI w4 T σ j w2 v2 A1) := by show LI _ _ _ _ _ _ _; rw [hA1]; exact HL2.out
                have hcell := hcellA.out w2 HLA.out.below
                clear hA1 HL2 HLI hs1' hj0
                go_wp2_with fail
                refine (zzPlainBytes_any kj w2 (by omega)).mono ?_
                rintro e wB ⟨rfl, hrowK, hbelB⟩
                have HLB : Hid (LI w4 T σ j wB v2 A1) := HLA.out.later hbelB
                have HKB : Hid (Side wB v2 w2.heap.size (pbs kj)) := ⟨Row.at hrowK, Row.lt_size hrowK, fun e => Nat.lt_irrefl _ (HLA.out.row.lt e)⟩
                clear hrowK hbelB hcell
                obtain ⟨kb, hkb⟩ : ∃ kb, kb = w2.heap.size := ⟨_, rfl⟩
                obtain ⟨kv, hkv⟩ : ∃ kv, kv = newRow w2 kj.size := ⟨_, rfl⟩
                have HKV : Hid (kv = .slice (some ⟨kb, 0, none⟩) kj.size kj.size) := by show _ = _; rw [hkv, hkb]
                rw [← hkb] at HKB
                rw [← hkv]
                clear hkb hkv HLA
                obtain ⟨K, hK⟩ : ∃ K, K = pbs kj := ⟨_, rfl⟩
                have HKK : Hid (K = pbs kj ∧ K.length = kj.size) := ⟨hK, by rw [hK, pbs_len]⟩
                rw [← hK] at HLn
                rw [← hK] at HKB
                clear hK
                go_wp2_with (first
                  | (at_builtin
                     refine wpList_append_mine _ rfl _ _ rfl v2 (A1) [34] rfl (HLB.out.row.alloc _) ⟨wB.heap.size, 0, none⟩ 1 1 rfl rfl (lit_cells wB [34] 5) (by have := HLn.out; (try simp only [List.length_append, List.length_cons, List.length_nil]); omega) ?_
                     intro vC wC hrow hpush
                     have HLC : Hid (LI w4 T σ j wC vC (A1 ++ [34])) := HLB.out.push (hpush.alloc _) hrow
                     have HKC : Hid (Side wC vC kb K) := HKB.out.push (hpush.alloc _)
                     clear hrow hpush)
                  | (at_builtin
                     refine wpList_append_mine _ rfl _ _ rfl vC (A1 ++ [34]) K rfl HLC.out.row ⟨kb, 0, none⟩ kj.size kj.size HKV.out HKK.out.2 HKC.out.1.cells (by have := HLn.out; (try simp only [List.length_append, List.length_cons, List.length_nil]); omega) ?_
                     intro vD wD hrow hpush
                     have HLD : Hid (LI w4 T σ j wD vD (A1 ++ [34] ++ K)) := HLC.out.push hpush hrow
                     have HKD : Hid (Side wD vD kb K) := HKC.out.push hpush
                     clear hrow hpush)
                  | (at_builtin
                     refine wpList_append_mine _ rfl _ _ rfl vD (A1 ++ [34] ++ K) [34] rfl (HLD.out.row.alloc _) ⟨wD.heap.size, 0, none⟩ 1 1 rfl rfl (lit_cells wD [34] 5) (by have := HLn.out; (try simp only [List.length_append, List.length_cons, List.length_nil]); omega) ?_
                     intro vE wE hrow hpush
                     have HLE : Hid (LI w4 T σ j wE vE (A1 ++ [34] ++ K ++ [34])) := HLD.out.push (hpush.alloc _) hrow
                     have HKE : Hid (Side wE vE kb K) := HKD.out.push (hpush.alloc _)
                     clear hrow hpush))
                refine (HWs.out wE vE (A1 ++ [34] ++ K ++ [34]) s1 HLE.out.below HLE.out.row (by have := HLn.out; (try simp only [List.length_append, List.length_cons, List.length_nil]); omega) (by omega)).mono ?_
                rintro e wF ⟨vF, rfl, hrow, hpush⟩
                obtain ⟨X1, hX1⟩ : ∃ X, X = wsAt wz s1 := ⟨_, rfl⟩
                have HX1 : Hid (X1 = wsAt wz s1) := hX1
                rw [← hX1] at hrow
                have HLn : Hid (_ ∧ X1.length ≤ 4) := ⟨HLn.out, by rw [hX1]; exact wsAt_len _ _⟩
                have HLF : Hid (LI w4 T σ j wF vF (A1 ++ [34] ++ K ++ [34] ++ X1)) := HLE.out.push hpush hrow
                have HKF : Hid (Side wF vF kb K) := HKE.out.push hpush
                clear hrow hpush hX1 HLE

                clear HLB HLC HLD HKB HKC HKD HKE
                obtain ⟨s2, hs2⟩ : ∃ s2 : Nat, s2 = s1 + 1 := ⟨_, rfl⟩
                have HS2 : Hid (s2 = s1 + 1) := hs2
                have hs2b : s2 ≤ 262150 := by omega
                have hs2e : (s1 : Int) + 1 = (s2 : Int) := by omega
                clear hs2
                go_wp2_with (at_builtin
                             refine wpList_append_mine _ rfl _ _ rfl vF (A1 ++ [34] ++ K ++ [34] ++ X1) [58] rfl (HLF.out.row.alloc _) ⟨wF.heap.size, 0, none⟩ 1 1 rfl rfl (lit_cells wF [58] 5) (by have := HLn.out; (try simp only [List.length_append, List.length_cons, List.length_nil]); omega) ?_
                             intro vG wG hrow hpush
                             have HLG : Hid (LI w4 T σ j wG vG (A1 ++ [34] ++ K ++ [34] ++ X1 ++ [58])) := HLF.out.push (hpush.alloc _) hrow
                             have HKG : Hid (Side wG vG kb K) := HKF.out.push (hpush.alloc _)
                             clear hrow hpush)
                try rw [hs2e]
                clear hs2e
                refine (HWs.out wG vG (A1 ++ [34] ++ K ++ [34] ++ X1 ++ [58]) s2 HLG.out.below HLG.out.row (by have := HLn.out; (try simp only [List.length_append, List.length_cons, List.length_nil]); omega) (by omega)).mono ?_
                rintro e wH ⟨vH, rfl, hrow, hpush⟩
                obtain ⟨X2, hX2⟩ : ∃ X, X = wsAt wz s2 := ⟨_, rfl⟩
                have HX2 : Hid (X2 = wsAt wz s2) := hX2
                rw [← hX2] at hrow
                have HLn : Hid (_ ∧ X2.length ≤ 4) := ⟨HLn.out, by rw [hX2]; exact wsAt_len _ _⟩
                have HLH : Hid (LI w4 T σ j wH vH (A1 ++ [34] ++ K ++ [34] ++ X1 ++ [58] ++ X2)) := HLG.out.push hpush hrow
                have HKH : Hid (Side wH vH kb K) := HKG.out.push hpush
                clear hrow hpush hX2 HLG

                clear HLF HKF HKG
                obtain ⟨s3, hs3⟩ : ∃ s3 : Nat, s3 = s2 + 1 := ⟨_, rfl⟩
                have HS3 : Hid (s3 = s2 + 1) := hs3
                have hs3b : s3 ≤ 262151 := by omega
                have hs3e : (s2 : Int) + 1 = (s3 : Int) := by omega
                clear hs3
                go_wp2_with fail
                try rw [hs3e]
                clear hs3e
                refine (HTk.out wH j HLH.out.below (by omega)).mono ?_
                rintro e wI ⟨vt, rfl, hrowT, hbelT, hownT⟩
                obtain ⟨Tk, hTk⟩ : ∃ Tk, Tk = tokOf ss us j := ⟨_, rfl⟩
                have HTe : Hid ((mk j).T = Tk ∧ 0 < Tk.length ∧ Tk.length ≤ 1048578) := by
                  have h := (HMl.out j).2.2.2.2.1
                  have e : (mk j).T = Tk := by rw [HMk.out, hTk]; rfl
                  rw [e] at h
                  exact ⟨e, by rw [hTk]; exact (tokOf_isT ss us j HUB.out).pos, h⟩
                rw [← hTk] at hrowT
                clear hTk
                obtain ⟨q, capT, hvt, hatT, hltT⟩ : ∃ q capT, vt = .slice (some ⟨q, 0, none⟩) Tk.length capT ∧ At wI q 0 Tk ∧ q < wI.heap.size := by
                  rcases hrowT.len with ⟨_, h⟩ | h
                  · have := HTe.out.2.1; rw [h] at this; simp at this
                  · exact h
                have hqo : wH.heap.size ≤ q := hownT q (by rw [hvt]; rfl)
                have HQ : Hid (T + 2 ≤ q) := Nat.le_trans HLH.out.size2 hqo
                have HTI : Hid (Side wI vH q Tk) := ⟨hatT, hltT, fun e => by have := HLH.out.row.lt e; omega⟩
                have HLI2 : Hid (LI w4 T σ j wI vH (A1 ++ [34] ++ K ++ [34] ++ X1 ++ [58] ++ X2)) := HLH.out.later hbelT
                have HKI : Hid (Side wI vH kb K) := HKH.out.later hbelT
                have HLn : Hid (_ ∧ Tk.length ≤ 1048578) := ⟨HLn.out, HTe.out.2.2⟩
                subst hvt
                clear hrowT hbelT hownT hatT hltT hqo HLH HKH
                obtain ⟨tl, htl⟩ : ∃ tl, tl = Tk.length := ⟨_, rfl⟩
                have HTl : Hid (Tk.length = tl) := htl.symm
                rw [← htl]
                clear htl
                go_wp2_with (at_builtin
                             refine wpList_append_mine _ rfl _ _ rfl vH (A1 ++ [34] ++ K ++ [34] ++ X1 ++ [58] ++ X2) Tk rfl HLI2.out.row ⟨q, 0, none⟩ tl capT rfl HTl.out HTI.out.1.cells (by have := HLn.out; have := HTl.out; (try simp only [List.length_append, List.length_cons, List.length_nil]); omega) ?_
                             intro vJ wJ hrow hpush
                             have HLJ : Hid (LI w4 T σ j wJ vJ (A1 ++ [34] ++ K ++ [34] ++ X1 ++ [58] ++ X2 ++ Tk)) := HLI2.out.push hpush hrow
                             have HKJ : Hid (Side wJ vJ kb K) := HKI.out.push hpush
                             have HTJ : Hid (Side wJ vJ q Tk) := HTI.out.push hpush
                             clear hrow hpush)
                refine (HWs.out wJ vJ (A1 ++ [34] ++ K ++ [34] ++ X1 ++ [58] ++ X2 ++ Tk) s3 HLJ.out.below HLJ.out.row (by have := HLn.out; (try simp only [List.length_append, List.length_cons, List.length_nil]); omega) (by omega)).mono ?_
                rintro e wL ⟨vL, rfl, hrow, hpush⟩
                obtain ⟨X3, hX3⟩ : ∃ X, X = wsAt wz s3 := ⟨_, rfl⟩
                have HX3 : Hid (X3 = wsAt wz s3) := hX3
                rw [← hX3] at hrow
                have HLn : Hid (_ ∧ X3.length ≤ 4) := ⟨HLn.out, by rw [hX3]; exact wsAt_len _ _⟩
                have HLL : Hid (LI w4 T σ j wL vL (A1 ++ [34] ++ K ++ [34] ++ X1 ++ [58] ++ X2 ++ Tk ++ X3)) := HLJ.out.push hpush hrow
                have HKL : Hid (Side wL vL kb K) := HKJ.out.push hpush
                have HTL : Hid (Side wL vL q Tk) := HTJ.out.push hpush
                clear hrow hpush hX3 HLJ

                clear HLI2 HKI HTI HKJ HTJ
                go_wp2_with fail
                have hKI : Calls Try.prog 26 #[kv] wL fun e w' => e = .returned (.tuple #[.int .i64 (zIdx K), .bool (vFold K)]) ∧ ∃ m, w' = wL.drewN m := by
                  rw [HKV.out]
                  exact zzKeyIndex_any (some ⟨kb, 0, none⟩) kj.size kj.size K wL HKK.out.2 (by unfold maxLen; omega) (by rw [HKK.out.1]; exact good_byt (pbs_good kj)) (.inr ⟨kb, 0, rfl, HKL.out.1⟩)
                refine hKI.mono ?_
                clear hKI
                rintro e w' ⟨rfl, m, hm⟩
                have HLM : Hid (LI w4 T σ j w' vL (A1 ++ [34] ++ K ++ [34] ++ X1 ++ [58] ++ X2 ++ Tk ++ X3)) := HLL.out.later (by rw [hm]; exact below_drewN (Below.refl _ _) m)
                have HTM : Hid (Side w' vL q Tk) := HTL.out.later (by rw [hm]; exact below_drewN (Below.refl _ _) m)
                clear hm HLL HTL HKL
                obtain ⟨B, hBB⟩ : ∃ B, B = A1 ++ [34] ++ K ++ [34] ++ X1 ++ [58] ++ X2 ++ Tk ++ X3 := ⟨_, rfl⟩
                rw [← hBB] at HLM
                have HBe : Hid (B = [123] ++ wsAt wz 0 ++ pre mk (j + 1)) := by
                  show _ = _
                  have e1 : (mk j).W1 = X1 := by rw [HX1.out, hs1.out, HMk.out]; rfl
                  have e2 : (mk j).W2 = X2 := by rw [HX2.out, HS2.out, hs1.out, HMk.out]; rfl
                  have e3 : (mk j).W3 = X3 := by rw [HX3.out, HS3.out, HS2.out, hs1.out, HMk.out]; rfl
                  have e4 : (mk j).K = K := HKe.out.trans HKK.out.1.symm
                  rw [hBB, HA1.out, HA.out, pre, body, e1, e2, e3, e4, HTe.out.1]
                  simp [List.append_assoc]
                clear hBB
                obtain ⟨s4, hs4⟩ : ∃ s4 : Nat, s4 = s3 + 1 := ⟨_, rfl⟩
                have HS4 : Hid (s4 = (if j + 1 = 0 then 1 else 4 * (j + 1))) := by
                  show _ = _
                  have := HS3.out; have := HS2.out; have := hs1.out
                  rw [if_neg (by omega)]; omega
                have hs4b : s4 ≤ 262145 := by have := HS3.out; have := HS2.out; have := hs1.out; omega
                have hs4e : (s3 : Int) + 1 = (s4 : Int) := by omega
                clear hs4
                obtain ⟨fd, hfd⟩ : ∃ fd, fd = vFold K := ⟨_, rfl⟩
                have HFd : Hid (fd = vFold K) := hfd
                rw [← hfd]
                clear hfd
                have e4 : Hid ((mk j).K = K) := HKe.out.trans HKK.out.1.symm
                cases hv : vIdx K with
                | some nn =>
                  have hnn := vIdx_lt hv
                  have hz : zIdx K = (nn : Int) := by unfold zIdx; rw [hv]
                  rw [hz]
                  obtain ⟨cn, la, ln, lc, o1, o2, hmem⟩ := HLM.out.mem
                  obtain ⟨d, hd⟩ : ∃ d : Nat, d = cn nn := ⟨_, rfl⟩
                  have hdb : d ≤ 65536 := by rw [hd]; have := (hmem nn hnn).1; omega
                  have k1 : w'.cell? ⟨T, nn, none⟩ = some (.int .i64 (d : Int)) := by rw [hd]; exact o1.cell nn hnn
                  have k2 := o2.cell nn hnn
                  have k3 := o1.frozen nn
                  have k4 := o2.frozen nn
                  have HH : Hid (LI w4 T (setS σ nn Tk) (j + 1) ((w'.setCell ⟨T, nn, none⟩ (.int .i64 ((d : Int) + 1))).setCell ⟨T + 1, nn, none⟩ (.slice (some ⟨q, 0, none⟩) tl capT)) vL B) := by
                    have := HLM.out.hit (cap := capT) hnn HTM.out HQ.out k1
                    rw [HTl.out] at this
                    exact this
                  have HVI : Hid (vIdx K = some nn) := hv
                  clear hd hmem o1 o2 hv hz HLM HTM
                  go_wp2
                  go_roundw
                  case rel =>
                    refine ⟨j + 1, s4, r, by omega, hs4b, rfl, by first | rfl | rw [hs4e], by go_num, HS4.out, ?_, ?_⟩
                    · rw [HRf.out, allOk, e4.out]; unfold vOk; rw [HVI.out]; simp
                    · rw [← HBe.out, slots, ← HSg.out]; unfold stepP; rw [e4.out, HVI.out, HTe.out.1]; exact HH.out
                  case measure => simp [intOf]; omega
                | none =>
                  have hz : zIdx K = -1 := by unfold zIdx; rw [hv]
                  rw [hz]
                  have HVI : Hid (vIdx K = none) := hv
                  have HH : Hid (LI w4 T σ (j + 1) w' vL B) := HLM.out.step
                  clear hv hz HLM HTM
                  cases fd
                  · go_wp2
                    go_roundw
                    case rel =>
                      refine ⟨j + 1, s4, r, by omega, hs4b, rfl, by first | rfl | rw [hs4e], by go_num, HS4.out, ?_, ?_⟩
                      · rw [HRf.out, allOk, e4.out]; unfold vOk; rw [HVI.out, ← HFd.out]; simp
                      · rw [← HBe.out, slots, ← HSg.out]; unfold stepP; rw [e4.out, HVI.out]; exact HH.out
                    case measure => simp [intOf]; omega
                  · go_wp2
                    go_roundw
                    case rel =>
                      refine ⟨j + 1, s4, true, by omega, hs4b, rfl, by first | rfl | rw [hs4e], by go_num, HS4.out, ?_, ?_⟩
                      · rw [allOk, e4.out]; unfold vOk; rw [HVI.out, ← HFd.out]; simp
                      · rw [← HBe.out, slots, ← HSg.out]; unfold stepP; rw [e4.out, HVI.out]; exact HH.out
                    case measure => simp [intOf]; omega
            · have hjn : (n1 : Int) ≤ (j : Int) := by omega
              have hje : j = n1 := by omega
              have HLn : Hid (A.length ≤ 137442099210) := HAl.out
              have HFin : Hid (A ++ [125] = 123 :: (wsAt wz 0 ++ rest (pairs mk 0 n1))) := by
                show _ = _
                rw [← pre_all, HA.out, hje]; simp
              have HSn : Hid (σ = slots mk n1 ∧ r = !allOk mk n1) := ⟨by rw [HSg.out, hje], by rw [HRf.out, hje]⟩
              clear hje
              go_wp2_with (at_builtin
                           refine wpList_append_mine _ rfl _ _ rfl u16 A [125] rfl (HLI.out.row.alloc _) ⟨wr.heap.size, 0, none⟩ 1 1 rfl rfl (lit_cells wr [125] 5) (by have := HLn.out; omega) ?_
                           intro vZ wZ hrow hpush
                           have HLZ : Hid (LI w4 T σ j wZ vZ (A ++ [125])) := HLI.out.push (hpush.alloc _) hrow
                           obtain ⟨bt, nt, ct, hvt⟩ : ∃ bt nt ct, vZ = .slice (some ⟨bt, 0, none⟩) nt ct := hrow.someSlice (by simp)
                           subst hvt
                           clear hrow hpush)
              have HRow := HLZ.out.row
              have hlenZ : nt = (A ++ [125]).length := HRow.lenEq
              have hZ := zzReadPlain_any bt nt ct (wsAt wz 0) (pairs mk 0 n1) wZ (Row.lt_size HRow) (by rw [← HFin.out]; exact hlenZ.symm) (by rw [hlenZ]; have := HLn.out; simp; omega) HRow.capOk.1 HRow.capOk.2 (by rw [← HFin.out]; exact Row.at HRow) (wsAt_sps _ _) (fun p hp => by obtain ⟨i, rfl⟩ := mem_pairs hp; rw [HMk.out]; exact mkP_ok ks ss us wz HUB.out i)
              refine hZ.mono ?_
              clear hZ HRow hlenZ
              rintro e wY ⟨ok, gv, tw, ra, rn, rc, rfl, hbY, hcase⟩
              have HLY : Hid (LI w4 T σ j wY (.slice (some ⟨bt, 0, none⟩) nt ct) (A ++ [125])) := HLZ.out.later hbY
              obtain ⟨out, hout⟩ : ∃ out, out = lineOut ok gv tw ra rn rc := ⟨_, rfl⟩
              have HO : Hid (out.size = 19 ∧ (∀ v ∈ out.toList, v.oneCell' = true) ∧ out = lineOut ok gv tw ra rn rc) := by
                refine ⟨by rw [hout]; rfl, ?_, hout⟩
                rw [hout]
                intro v hv
                simp [lineOut] at hv
                rcases hv with rfl | rfl | rfl | rfl | rfl | rfl | rfl | rfl | rfl | rfl | rfl | rfl | rfl | rfl | rfl | rfl | rfl | rfl | rfl <;> rfl
              have HCs : Hid ((allOk mk n1 = true ∧ ok = true ∧ ∀ n, n < 6 → gv n = (σ n).given ∧ tw n = (σ n).twice ∧ rn n = (σ n).raw.length ∧ Has wY (ra n) (σ n).raw) ∨ (allOk mk n1 = false ∧ ok = false)) := by
                rw [runP_slots] at hcase
                rcases hcase with ⟨σ', h1, h2, h3⟩ | ⟨h1, h2⟩
                · cases ha : allOk mk n1
                  · rw [ha] at h1; simp at h1
                  · rw [ha] at h1; simp at h1
                    rw [← h1, ← HSn.out.1] at h3
                    exact .inl ⟨rfl, h2, h3⟩
                · cases ha : allOk mk n1
                  · exact .inr ⟨rfl, h2⟩
                  · rw [ha] at h1; simp at h1
              rw [← hout]
              clear hout hcase hbY HLZ
              obtain ⟨S, hS⟩ : ∃ S, S = wY.heap.size := ⟨_, rfl⟩
              have HS : Hid (S = wY.heap.size) := hS
              rcases HCs.out with ⟨hall, hok, hsl⟩ | ⟨hall, hok⟩
              · have hr : r = false := by rw [HSn.out.2, hall]; rfl
                subst hr
                subst hok
                clear hall
                go_wp2_with (refine wpList_store45 _ rfl rfl _ _ rfl wY.heap.size rfl A45 out rfl (heap_alloc_new _ _) rfl HO.out.1 HO.out.2.1 ?_
                             obtain ⟨WF, hWF⟩ : ∃ WF : World, WF = (wY.alloc (.cells A45 45)).setRow wY.heap.size out := ⟨_, rfl⟩
                             have HWF : Hid (WF = (wY.alloc (.cells A45 45)).setRow wY.heap.size out) := hWF
                             unfold A45 at hWF
                             rw [← hWF, ← hS]
                             clear hWF hS
                             have cok : WF.cell? ⟨S, 0, none⟩ = some (.bool true) := (by rw [HS.out, HWF.out, line_cell _ _ _ 0, HO.out.2.2]; rfl))
                have hLF : LI w4 T σ j WF (.slice (some ⟨bt, 0, none⟩) nt ct) (A ++ [125]) := by rw [HWF.out]; exact HLY.out.later (line_below _ _ _)
                have HEnd : Hid (Below w.heap.size w WF) := HB4.out.trans (hLF.below.mono (by rw [HT.out]; exact HB4.out.size))
                obtain ⟨cn, la, ln, lc, o1, o2, hmem⟩ := hLF.mem
                have HRaw : Hid (∀ n, (σ n).given = true → 0 < (σ n).raw.length ∧ (σ n).raw.length ≤ 1048578) := by
                  rw [HSn.out.1]
                  exact slots_raw mk (fun i => ⟨by rw [HMk.out]; exact (mkP_ok ks ss us wz HUB.out i).t.pos, (HMl.out i).2.2.2.2.1⟩) n1
                have HMm : Hid (∀ n, n < 6 → WF.cell? ⟨T, n, none⟩ = some (.int .i64 (cn n : Int)) ∧ WF.cell? ⟨T + 1, n, none⟩ = some (.slice (la n) (ln n) (lc n)) ∧ WF.cell? ⟨S, 1 + n, none⟩ = some (.bool (decide (0 < cn n))) ∧ WF.cell? ⟨S, 7 + n, none⟩ = some (.bool (decide (2 ≤ cn n))) ∧ WF.cell? ⟨S, 13 + n, none⟩ = some (.slice (ra n) (rn n) (rc n)) ∧ cn n ≤ 65536 ∧
                    (0 < cn n → ln n = (σ n).raw.length ∧ rn n = (σ n).raw.length ∧ (σ n).raw.length ≤ 1048578 ∧ ∃ q q' off, la n = some ⟨q, 0, none⟩ ∧ ra n = some ⟨q', off, none⟩ ∧ At WF q 0 (σ n).raw ∧ At WF q' off (σ n).raw)) := by
                  intro n hn
                  obtain ⟨m1, m2, m3, m4⟩ := hmem n hn
                  obtain ⟨g1, g2, g3, g4⟩ := hsl n hn
                  obtain ⟨l1, l2, l3⟩ := lineOut_at true gv tw ra rn rc n hn
                  refine ⟨o1.cell n hn, o2.cell n hn, ?_, ?_, ?_, by omega, fun hc => ?_⟩
                  · rw [HS.out, HWF.out, line_cell, HO.out.2.2, l1, g1, m2]
                  · rw [HS.out, HWF.out, line_cell, HO.out.2.2, l2, g2, m3]
                  · rw [HS.out, HWF.out, line_cell, HO.out.2.2, l3]
                  · obtain ⟨p1, q, p2, p3, p4⟩ := m4 hc
                    obtain ⟨hne, hle⟩ := HRaw.out n (by rw [m2]; simp [hc])
                    refine ⟨p1, g3, hle, ?_⟩
                    have hb : Below wY.heap.size wY WF := by rw [HWF.out]; exact line_below _ _ _
                    rcases g4.below hb with h | ⟨q', off, e, hat⟩
                    · rw [h] at hne; simp at hne
                    · exact ⟨q, q', off, p2, e, p4.1, hat⟩
                clear hLF hmem o1 o2 hsl cok HRaw
                go_loopw [23] (fun x wr => ∃ (k : Nat), k ≤ 6 ∧ x = .int .i64 k ∧ Hid (∃ q, wr = WF.drewN q)) (fun x _ => 6 - (intOf x).toNat)
                case atStart => exact ⟨0, by omega, rfl, 0, rfl⟩
                case round =>
                  obtain ⟨k, hk, rfl, HQ⟩ := hrel
                  obtain ⟨qd, hqd⟩ := HQ.out
                  by_cases hlt : k < 6
                  · obtain ⟨k1, k2, k3, k4, k5, k6, k7⟩ := HMm.out k hlt
                    have hlt' : (k : Int) < 6 := by omega
                    obtain ⟨c, hc⟩ : ∃ c : Nat, c = cn k := ⟨_, rfl⟩
                    rw [← hc] at k1 k3 k4 k6 k7
                    obtain ⟨d, hd⟩ : ∃ d : Int, d = (c : Int) := ⟨_, rfl⟩
                    have j1 : wr.cell? ⟨T, k, none⟩ = some (.int .i64 d) := by rw [hqd, hd]; exact k1
                    have j2 : wr.cell? ⟨T + 1, k, none⟩ = some (.slice (la k) (ln k) (lc k)) := by rw [hqd]; exact k2
                    have j5 : wr.cell? ⟨S, 13 + k, none⟩ = some (.slice (ra k) (rn k) (rc k)) := by rw [hqd]; exact k5
                    rcases (show c = 0 ∨ c = 1 ∨ 2 ≤ c by omega) with h0 | h12
                    · have g0 : decide ((0 : Int) < d) = false := decide_eq_false (by omega)
                      have g2 : decide ((2 : Int) ≤ d) = false := decide_eq_false (by omega)
                      have j3 : wr.cell? ⟨S, 1 + k, none⟩ = some (.bool false) := by rw [hqd]; rw [h0] at k3; exact k3
                      have j4 : wr.cell? ⟨S, 7 + k, none⟩ = some (.bool false) := by rw [hqd]; rw [h0] at k4; exact k4
                      clear hc k1 k2 k3 k4 k5 k7 hqd h0 hd
                      go_wp2
                      go_quiet (fail)
                      go_wp2
                      obtain ⟨wr2, hwr2⟩ : ∃ wr2, wr2 = wr.drewN nq := ⟨_, rfl⟩
                      have HQ2 : Hid (∃ q, wr2 = WF.drewN q) := by obtain ⟨q, hq⟩ := HQ.out; exact ⟨q + nq, by rw [hwr2, hq, World.drewN_drewN]⟩
                      have i1 : wr2.cell? ⟨T, k, none⟩ = some (.int .i64 d) := by rw [hwr2]; exact j1
                      rw [← hwr2]
                      clear hwr2 j1 j2 j3 j4 j5
                      go_quiet (fail)
                      go_wp2
                      go_roundw
                      case rel => exact ⟨k + 1, by omega, by go_num, by obtain ⟨q, hq⟩ := HQ2.out; exact ⟨q + _, by rw [hq, World.drewN_drewN]⟩⟩
                      case measure => simp [intOf]; omega
                    · have g0 : decide ((0 : Int) < d) = true := decide_eq_true (by omega)
                      have j3 : wr.cell? ⟨S, 1 + k, none⟩ = some (.bool true) := by rw [hqd]; rw [decide_eq_true (show 0 < c by omega)] at k3; exact k3
                      obtain ⟨r1, r2, r3, q, q', off, r4, r5, r6, r7⟩ := k7 (by omega)
                      obtain ⟨L, hL⟩ : ∃ L, L = (σ k).raw.length := ⟨_, rfl⟩
                      rw [r4, r1, ← hL] at j2
                      rw [r5, r2, ← hL] at j5
                      have HEq : Hid (∀ (wx : World), (∃ m, wx = WF.drewN m) → Calls Try.prog 19 #[.slice (some ⟨q', off, none⟩) L (rc k), .slice (some ⟨q, 0, none⟩) L (lc k)] wx fun e w' => e = .returned (.bool true) ∧ ∃ m, w' = wx.drewN m) := by
                        rintro wx ⟨m, rfl⟩
                        refine (zzEqualBytes_any q' off (rc k) q 0 (lc k) L L (σ k).raw (σ k).raw (WF.drewN m) hL.symm hL.symm (by unfold maxLen; omega) (by unfold maxLen; omega) r7 r6).mono ?_
                        rintro e w' ⟨rfl, h⟩
                        exact ⟨by simp, h⟩
                      have h12' : (decide ((2 : Int) ≤ d) = false ∧ decide (2 ≤ c) = false) ∨ (decide ((2 : Int) ≤ d) = true ∧ decide (2 ≤ c) = true) := by
                        rcases h12 with h | h
                        · exact .inl ⟨decide_eq_false (by omega), decide_eq_false (by omega)⟩
                        · exact .inr ⟨decide_eq_true (by omega), decide_eq_true (by omega)⟩
                      have j4' : wr.cell? ⟨S, 7 + k, none⟩ = some (.bool (decide (2 ≤ c))) := by rw [hqd]; exact k4
                      clear hc k1 k2 k3 k4 k5 k7 hqd r1 r2 r4 r5 r6 r7 hL h12 hd
                      rcases h12' with ⟨g2, g2'⟩ | ⟨g2, g2'⟩
                      all_goals
                        rw [g2'] at j4'
                        clear g2'
                        go_wp2
                        go_quiet (fail)
                        go_wp2
                        obtain ⟨wr2, hwr2⟩ : ∃ wr2, wr2 = wr.drewN nq := ⟨_, rfl⟩
                        have HQ2 : Hid (∃ q, wr2 = WF.drewN q) := by obtain ⟨q, hq⟩ := HQ.out; exact ⟨q + nq, by rw [hwr2, hq, World.drewN_drewN]⟩
                        have i1 : wr2.cell? ⟨T, k, none⟩ = some (.int .i64 d) := by rw [hwr2]; exact j1
                        have i2 : wr2.cell? ⟨T + 1, k, none⟩ = some (.slice (some ⟨q, 0, none⟩) L (lc k)) := by rw [hwr2]; exact j2
                        have i5 : wr2.cell? ⟨S, 13 + k, none⟩ = some (.slice (some ⟨q', off, none⟩) L (rc k)) := by rw [hwr2]; exact j5
                        have HE2 : Hid (∀ n, Calls Try.prog 19 #[.slice (some ⟨q', off, none⟩) L (rc k), .slice (some ⟨q, 0, none⟩) L (lc k)] (wr2.drewN n) fun e w' => e = .returned (.bool true) ∧ ∃ m, w' = (wr2.drewN n).drewN m) :=
                          fun n => HEq.out _ (by obtain ⟨q, hq⟩ := HQ2.out; exact ⟨q + n, by rw [hq, World.drewN_drewN]⟩)
                        rw [← hwr2]
                        clear hwr2 j1 j2 j3 j4' j5
                        go_quiet ((go_at_call 19; exact Calls.quiet_of (HE2.out _)))
                        go_wp2
                        go_roundw
                        case rel => exact ⟨k + 1, by omega, by go_num, by obtain ⟨q, hq⟩ := HQ2.out; exact ⟨q + _, by rw [hq, World.drewN_drewN]⟩⟩
                        case measure => simp [intOf]; omega
                  · have hge : (6 : Int) ≤ (k : Int) := by omega
                    have HE : Hid (Below w.heap.size w wr) := by rw [hqd]; exact below_drewN HEnd.out qd
                    clear hqd
                    go_wp2
                    go_ret
                    exact ⟨rfl, HE.out⟩
              · have hr : r = true := by rw [HSn.out.2, hall]; rfl
                subst hr
                subst hok
                clear hall
                go_wp2_with (refine wpList_store45 _ rfl rfl _ _ rfl wY.heap.size rfl A45 out rfl (heap_alloc_new _ _) rfl HO.out.1 HO.out.2.1 ?_
                             obtain ⟨WF, hWF⟩ : ∃ WF : World, WF = (wY.alloc (.cells A45 45)).setRow wY.heap.size out := ⟨_, rfl⟩
                             have HWF : Hid (WF = (wY.alloc (.cells A45 45)).setRow wY.heap.size out) := hWF
                             unfold A45 at hWF
                             rw [← hWF, ← hS]
                             clear hWF hS
                             have cok : WF.cell? ⟨S, 0, none⟩ = some (.bool false) := (by rw [HS.out, HWF.out, line_cell _ _ _ 0, HO.out.2.2]; rfl))
                have hLF : LI w4 T σ j WF (.slice (some ⟨bt, 0, none⟩) nt ct) (A ++ [125]) := by rw [HWF.out]; exact HLY.out.later (line_below _ _ _)
                have HEnd : Hid (Below w.heap.size w WF) := HB4.out.trans (hLF.below.mono (by rw [HT.out]; exact HB4.out.size))
                go_ret
                exact ⟨rfl, HEnd.out⟩


end Go.Proofs.Qxb6000782a
