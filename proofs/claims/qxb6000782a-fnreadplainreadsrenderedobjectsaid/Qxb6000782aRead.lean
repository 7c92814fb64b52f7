/- THE WALK OF 'readPlain' over a rendered object. -/
import Derived.Test.Qxb6000782aPairs
namespace Go.Proofs.Qxb6000782a
open Go.RowKit
set_option linter.unusedVariables false
set_option linter.unusedSimpArgs false

def more (ps : List Pair) : List Int := match ps with | [] => [125] | q :: _ => 44 :: (q.W0 ++ rest ps)
theorem rest_cons (p : Pair) (ps : List Pair) : rest (p :: ps) = 34 :: (p.K ++ 34 :: (p.W1 ++ 58 :: (p.W2 ++ (p.T ++ (p.W3 ++ more ps))))) := by cases ps <;> rfl

theorem IsT.head {t : List Int} (h : IsT t) (r : List Int) : ∃ c r', t ++ r = c :: r' ∧ sp c = false := by
  rcases h with ⟨s, rfl, _⟩ | h
  · exact ⟨34, _, rfl, rfl⟩
  · match t, h with
    | c :: t, h =>
      refine ⟨c, _, rfl, ?_⟩
      have := isNum_dig h c (by simp)
      simp [Tok.dig] at this
      unfold sp
      simp; omega

theorem IsT.pos {t : List Int} (h : IsT t) : 0 < t.length := by
  rcases h with ⟨s, rfl, _⟩ | h
  · simp
  · match t, h with
    | c :: t, h => simp

theorem more_head (ps : List Pair) : ∃ c r', more ps = c :: r' ∧ (c = 125 ∨ c = 44) := by
  cases ps with
  | nil => exact ⟨125, _, rfl, .inl rfl⟩
  | cons q ps => exact ⟨44, _, rfl, .inr rfl⟩

theorem after_tok {p : Pair} (ok : p.Ok) (ps : List Pair) : p.W3 ++ more ps = [] ∨ ∃ c r', p.W3 ++ more ps = c :: r' ∧ Tok.dig c = false := by
  have h3 := ok.w3
  match hw : p.W3 with
  | [] =>
    obtain ⟨c, r', e, hc⟩ := more_head ps
    refine .inr ⟨c, r', by simpa using e, ?_⟩
    rcases hc with rfl | rfl <;> rfl
  | c :: r =>
    refine .inr ⟨c, _, rfl, ?_⟩
    rw [hw] at h3
    rcases sp_yes (h3 c (by simp)) with rfl | rfl | rfl | rfl <;> rfl

def Sk (b n cap i j : Nat) (w : World) : Prop := Calls Try.prog 46 #[.slice (some ⟨b, 0, none⟩) n cap, .int .i64 i] w fun e w' => e = .returned (.int .i64 (j : Int)) ∧ w = w'
def Pe (b n cap i j : Nat) (w : World) : Prop := Calls Try.prog 31 #[.slice (some ⟨b, 0, none⟩) n cap, .int .i64 i] w fun e w' => e = .returned (.tuple #[.int .i64 (j : Int), .bool true]) ∧ w = w'

theorem skip_at {b n cap i : Nat} {ws r : List Int} {w : World} (hn : i + (ws ++ r).length = n) (hm : n ≤ maxLen) (hc : At w b i (ws ++ r)) (hs : Sps ws) (hr : ∃ c r', r = c :: r' ∧ sp c = false) : Sk b n cap i (i + ws.length) w :=
  skipSpace_any b 0 n cap i ws r w (by rw [List.length_append] at hn; exact hn) hm (by rw [Nat.zero_add]; exact hc) hs (.inr hr)

theorem pe_at {b n cap i : Nat} {t r : List Int} {w : World} (hn : i + (t ++ r).length = n) (hm : n ≤ maxLen) (hc : At w b i (t ++ r)) (ht : IsT t) (hr : r = [] ∨ ∃ c r', r = c :: r' ∧ Tok.dig c = false) : Pe b n cap i (i + t.length) w := by
  have h := plainEnd_any b 0 n cap i (t ++ r) w hn hm (by rw [Nat.zero_add]; exact hc)
  have e := pl_token t r ht hr
  have e1 : peEnd (t ++ r) i = ((i + t.length : Nat) : Int) := by unfold peEnd; rw [e]; simp
  have e2 : peOk (t ++ r) = true := by unfold peOk; rw [e]; rfl
  rw [e1, e2] at h
  exact h

/-- All that one round asks of the text. -/
structure Round (b n cap i : Nat) (p : Pair) (ps : List Pair) (q1 i1 i2 e2 i3 : Nat) (w : World) : Prop where
  pe1 : Pe b n cap i (q1 + 1) w
  c0 : w.cell? ⟨b, i, none⟩ = some (.int .u8 34)
  key : At w b (i + 1) p.K
  sk1 : Sk b n cap (q1 + 1) i1 w
  c1 : w.cell? ⟨b, i1, none⟩ = some (.int .u8 58)
  sk2 : Sk b n cap (i1 + 1) i2 w
  pe2 : Pe b n cap i2 e2 w
  tok : At w b i2 p.T
  sk3 : Sk b n cap e2 i3 w
  m : At w b i3 (more ps)

theorem round_of {b n cap i : Nat} {p : Pair} {ps : List Pair} (ok : p.Ok) (hn : i + (rest (p :: ps)).length = n) (hm : n ≤ maxLen) :
    ∃ q1 i1 i2 e2 i3, q1 = i + 1 + p.K.length ∧ q1 + 1 ≤ i1 ∧ i1 + 1 ≤ i2 ∧ e2 = i2 + p.T.length ∧ i2 < e2 ∧ e2 ≤ i3 ∧ i3 + (more ps).length = n ∧ ∀ w, At w b i (rest (p :: ps)) → Round b n cap i p ps q1 i1 i2 e2 i3 w := by
  rw [rest_cons] at hn ⊢
  have hnK : i + (p.K.length + 2 + (p.W1.length + (1 + (p.W2.length + (p.T.length + (p.W3.length + (more ps).length)))))) = n := by
    simp only [List.length_cons, List.length_append] at hn
    omega
  refine ⟨i + 1 + p.K.length, i + (p.K.length + 2) + p.W1.length, i + (p.K.length + 2) + p.W1.length + 1 + p.W2.length, _, i + (p.K.length + 2) + p.W1.length + 1 + p.W2.length + p.T.length + p.W3.length, rfl, by omega, by omega, rfl, by have := ok.t.pos; omega, ?_, ?_, ?_⟩
  · omega
  · omega
  · intro w hc
    have hkt : IsT (34 :: (p.K ++ [34])) := .inl ⟨p.K, rfl, ok.k⟩
    have hc' : At w b i ((34 :: (p.K ++ [34])) ++ (p.W1 ++ 58 :: (p.W2 ++ (p.T ++ (p.W3 ++ more ps))))) := by simpa using hc
    have a1 : At w b (i + (34 :: (p.K ++ [34])).length) (p.W1 ++ 58 :: (p.W2 ++ (p.T ++ (p.W3 ++ more ps)))) := hc'.right
    have hl1 : (34 :: (p.K ++ [34])).length = p.K.length + 2 := by simp
    rw [hl1] at a1
    have a2 := a1.right
    have a3 := a2.tail
    have a4 := a3.right
    have a5 := a4.right
    have a6 := a5.right
    constructor
    · have := pe_at (cap := cap) (by rw [List.length_append, hl1]; simp only [List.length_append, List.length_cons]; omega) hm hc' hkt (.inr (by
        have h1 := ok.w1
        match hw : p.W1 with
        | [] => exact ⟨58, _, rfl, rfl⟩
        | c :: r =>
          refine ⟨c, _, rfl, ?_⟩
          rw [hw] at h1
          rcases sp_yes (h1 c (by simp)) with rfl | rfl | rfl | rfl <;> rfl))
      rw [hl1] at this
      rw [show i + 1 + p.K.length + 1 = i + (p.K.length + 2) by omega]
      exact this
    · exact hc.head
    · exact hc.tail.left
    · rw [show i + 1 + p.K.length + 1 = i + (p.K.length + 2) by omega]
      exact skip_at (by simp only [List.length_append, List.length_cons]; omega) hm a1 ok.w1 ⟨58, _, rfl, rfl⟩
    · exact a2.head
    · exact skip_at (by simp only [List.length_append, List.length_cons]; omega) hm a3 ok.w2 (ok.t.head _)
    · exact pe_at (by simp only [List.length_append, List.length_cons]; omega) hm a4 ok.t (after_tok ok ps)
    · exact a4.left
    · refine skip_at (by simp only [List.length_append, List.length_cons]; omega) hm a5 ok.w3 ?_
      obtain ⟨c, r', e, hcc⟩ := more_head ps
      refine ⟨c, r', e, ?_⟩
      rcases hcc with rfl | rfl <;> rfl
    · exact a6

theorem Sk.go {b n cap i j : Nat} {w : World} (h : Sk b n cap i j w) : Calls Try.prog 46 #[.slice (some ⟨b, 0, none⟩) n cap, .int .i64 i] w fun e w' => e = .returned (.int .i64 (j : Int)) ∧ w = w' := h
theorem Pe.go {b n cap i j : Nat} {w : World} (h : Pe b n cap i j w) : Calls Try.prog 31 #[.slice (some ⟨b, 0, none⟩) n cap, .int .i64 i] w fun e w' => e = .returned (.tuple #[.int .i64 (j : Int), .bool true]) ∧ w = w' := h

theorem vPtr_at {g n : Nat} {zs : List Int} (h : vIdx zs = some n) : vPtr g zs = .pointer (some ⟨g, 3 * n, none⟩) := by unfold vPtr; rw [h]
theorem vPtr_no {g : Nat} {zs : List Int} (h : vIdx zs = none) : vPtr g zs = .pointer none := by unfold vPtr; rw [h]

def ReadPost (w : World) (g : Nat) (ps : List Pair) (e : Ending) (w' : World) : Prop :=
  Below g w w' ∧ ((∃ σ, runP ps slot0 = some σ ∧ e = .returned (.bool true) ∧ Line w' g σ) ∨ (runP ps slot0 = none ∧ e = .returned (.bool false) ∧ ∃ σ, Line w' g σ))

set_option maxRecDepth 4000 in
set_option maxHeartbeats 1000000 in
theorem readPlain_any (g b n cap : Nat) (W0 : List Int) (ps : List Pair) (w : World) (hB : Blk w g vals0) (hbg : b < g) (hn : (123 :: (W0 ++ rest ps)).length = n) (hm : n ≤ 1099511627776) (hcap : n ≤ cap) (hcm : cap ≤ maxLen)
    (hc : At w b 0 (123 :: (W0 ++ rest ps))) (h0 : Sps W0) (hok : ∀ p ∈ ps, p.Ok) :
    Calls Try.prog 40 #[.pointer (some ⟨g, 0, none⟩), .slice (some ⟨b, 0, none⟩) n cap] w (ReadPost w g ps) := by
  have hm' : n ≤ maxLen := by unfold maxLen; omega
  have HM : Hid (n ≤ maxLen) := hm'
  have HW : Hid (At w b 0 (123 :: (W0 ++ rest ps))) := hc
  have HN : Hid ((123 :: (W0 ++ rest ps)).length = n) := hn
  have HK : Hid (∀ p ∈ ps, p.Ok) := hok
  have hres := reset_new g w hB
  have HR : Hid _ := hres
  have HT : Hid (∀ wx : World, Below g w wx → At wx b 0 (123 :: (W0 ++ rest ps))) := fun wx h => hc.keep (h.block b hbg)
  have HS0 : Hid (∀ wx : World, Below g w wx → Sk b n cap 1 (1 + W0.length) wx) := by
    intro wx h
    refine skip_at (ws := W0) (r := rest ps) ?_ hm' (HT.out wx h).tail h0 ?_
    · rw [List.length_cons] at hn; omega
    · cases ps with
      | nil => exact ⟨125, _, rfl, rfl⟩
      | cons p ps => exact ⟨34, _, rest_cons p ps, rfl⟩
  unfold maxLen at hcm
  clear hres hm' hc hB h0 hok
  go_enter Try.func40, Try.ntmps40
  go_wp2_with fail
  refine Calls.mono HR.out ?_
  rintro e w1 ⟨rfl, hb1, hbel1⟩
  have HL : Hid (Line w1 g slot0) := Line.new hb1
  have HB : Hid (Below g w w1) := hbel1
  clear hb1 hbel1 HR
  go_wp2_with fail
  refine (HS0.out w1 HB.out).go.mono ?_
  rintro e w1 ⟨rfl, rfl⟩
  clear HS0
  have hr := (HT.out w1 HB.out).tail.right
  have HRR : Hid (At w1 b (1 + W0.length) (rest ps)) := by show At _ _ _ _; rw [Nat.zero_add] at hr; exact hr
  obtain ⟨i, hi⟩ : ∃ i, i = 1 + W0.length := ⟨_, rfl⟩
  have HI : Hid (i + (rest ps).length = n) := by show _ = _; rw [← HN.out, hi]; simp; omega
  rw [← hi] at HRR ⊢
  clear hr hi hn HW HN
  cases ps with
  | nil =>
    have hci := HRR.out.head
    have hin : i + 1 = n := HI.out
    have t : ((i : Int) + 1 == (n : Int)) = true := by apply beq_iff_eq.2; omega
    go_wp2
    go_ret
    exact ⟨HB.out, .inl ⟨slot0, rfl, rfl, HL.out⟩⟩
  | cons p0 ps0 =>
    have hci := HRR.out.head
    have hin : i < n := by have := HI.out; rw [rest_cons] at this; simp at this; omega
    go_wp2
    go_loopw [5] (fun x wr => ∃ (i : Nat) (p : Pair) (ps : List Pair) (σ : Nat → Slot), x = .int .i64 i ∧ Hid (i + (rest (p :: ps)).length = n ∧ At wr b i (rest (p :: ps)) ∧ Line wr g σ ∧ Below g w wr ∧ (∀ q ∈ p :: ps, q.Ok) ∧ runP (p0 :: ps0) slot0 = runP (p :: ps) σ)) (fun x _ => n - (intOf x).toNat)
    case atStart => exact ⟨i, p0, ps0, slot0, rfl, HI.out, HRR.out, HL.out, HB.out, HK.out, rfl⟩
    case round =>
      clear hci hin HI HRR HL HB HK
      obtain ⟨i, p, ps, σ, rfl, H⟩ := hrel
      obtain ⟨hlen, hat, hline, hbel, hoks, hrun⟩ := H.out
      obtain ⟨q1, i1, i2, e2, i3, f1, f2, f3, f4, f5, f6, f7, hRR⟩ := round_of (b := b) (cap := cap) (hoks p (by simp)) hlen HM.out
      have hR := hRR wr hat
      have hml : 0 < (more ps).length := by obtain ⟨c, r', e, _⟩ := more_head ps; rw [e]; simp
      have hi3n : i3 < n := by omega
      have HKL : Hid (p.K.length = q1 - (i + 1)) := by show _ = _; omega
      have HTL : Hid (p.T.length = e2 - i2) := by show _ = _; omega
      have HF7 : Hid (i3 + (more ps).length = n) := f7
      have f1' : i + 1 ≤ q1 := by omega
      have HRd : Hid (∀ wx : World, Below g w wx → Round b n cap i p ps q1 i1 i2 e2 i3 wx) := by
        intro wx hx
        exact hRR wx (hat.keep ((hx.block b hbg).trans (hbel.block b hbg).symm))
      have HLn : Hid (Line wr g σ) := hline
      have HBl : Hid (Below g w wr) := hbel
      have HRn : Hid (runP (p0 :: ps0) slot0 = runP (p :: ps) σ) := hrun
      have HOk : Hid (∀ q ∈ p :: ps, q.Ok) := hoks
      have c0 := hR.c0
      have c1 := hR.c1
      have hne : ¬ cap = i + 1 := by omega
      have hne2 : ¬ cap = i2 := by omega
      have t10 : ((i1 : Int) == (n : Int)) = false := by apply beq_eq_false_iff_ne.2; omega
      have t19 : ((i3 : Int) == (n : Int)) = false := by apply beq_eq_false_iff_ne.2; omega
      clear H hlen hat hline hbel hoks hrun hR hRR f1 f4 f7 hml
      go_wp2_with fail
      refine (HRd.out wr HBl.out).pe1.go.mono ?_
      rintro e wr ⟨rfl, rfl⟩
      go_wp2_with fail
      refine (value_any g _ _ _ p.K wr HKL.out (by have := HM.out; omega) (good_byt (HOk.out p (by simp)).k) (.inr ⟨b, i + 1, rfl, (HRd.out wr HBl.out).key⟩)).mono ?_
      rintro e w2 ⟨rfl, hb2⟩
      have HB2 : Hid (Below g w w2) := HBl.out.trans (hb2.mono (Nat.le_of_lt HLn.out.lt))
      have HL2 : Hid (Line w2 g σ) := HLn.out.later hb2
      have d1 := (HRd.out w2 HB2.out).c1
      clear hb2 c0 c1
      go_wp2_with fail
      refine (HRd.out w2 HB2.out).sk1.go.mono ?_
      rintro e w2 ⟨rfl, rfl⟩
      have hv : (∃ nn, vIdx p.K = some nn) ∨ (vIdx p.K = none ∧ vOk p.K = true) ∨ vOk p.K = false := by
        cases h : vIdx p.K with
        | some nn => exact .inl ⟨nn, rfl⟩
        | none =>
          right
          cases h2 : vOk p.K
          · exact .inr rfl
          · exact .inl ⟨rfl, rfl⟩
      rcases hv with ⟨nn, hv⟩ | ⟨hv, hvo⟩ | hvo
      · have hvo : vOk p.K = true := by unfold vOk; rw [hv]; rfl
        have HV : Hid (vIdx p.K = some nn) := hv
        have HVO : Hid (vOk p.K = true) := hvo
        rw [hvo, vPtr_at hv]
        clear hv hvo
        go_wp2_with fail
        refine (HRd.out w2 HB2.out).sk2.go.mono ?_
        rintro e w2 ⟨rfl, rfl⟩
        go_wp2_with fail
        refine (HRd.out w2 HB2.out).pe2.go.mono ?_
        rintro e w2 ⟨rfl, rfl⟩
        go_wp2_with fail
        refine (HL2.out.set (vIdx_lt HV.out) hbg HTL.out (by omega) (HRd.out w2 HB2.out).tok).mono ?_
        rintro e w3 ⟨rfl, hl3, hb3⟩
        have HL3 : Hid (Line w3 g (stepP σ p)) := by show Line _ _ _; unfold stepP; rw [HV.out]; exact hl3
        have HB3 : Hid (Below g w w3) := HB2.out.trans hb3
        clear hl3 hb3 d1
        go_wp2_with fail
        refine (HRd.out w3 HB3.out).sk3.go.mono ?_
        rintro e w3 ⟨rfl, rfl⟩
        have hmm := (HRd.out w3 HB3.out).m
        have HRn2 : Hid (runP (p0 :: ps0) slot0 = runP ps (stepP σ p)) := by
          show _ = _
          rw [HRn.out, runP, if_pos HVO.out]
        rcases ps with _ | ⟨q, ps⟩
        · have hc3 := hmm.head
          have hi3e : i3 + 1 = n := HF7.out
          have t3 : ((i3 : Int) + 1 == (n : Int)) = true := by apply beq_iff_eq.2; omega
          clear hmm
          go_wp2
          go_ret
          exact ⟨HB3.out, .inl ⟨stepP σ p, by rw [HRn2.out]; rfl, rfl, HL3.out⟩⟩
        · have hc3 := hmm.head
          have ha4 := hmm.tail
          have hlen4 : i3 + 1 + (q.W0 ++ rest (q :: ps)).length = n := by
            have := HF7.out
            unfold more at this
            rw [List.length_cons] at this
            omega
          have HS4 : Hid (Sk b n cap (i3 + 1) (i3 + 1 + q.W0.length) w3) := skip_at hlen4 HM.out ha4 (HOk.out q (by simp)).w0 ⟨34, _, rest_cons q ps, rfl⟩
          have HA4 : Hid (At w3 b (i3 + 1 + q.W0.length) (rest (q :: ps))) := ha4.right
          obtain ⟨i4, hi4⟩ : ∃ i4, i4 = i3 + 1 + q.W0.length := ⟨_, rfl⟩
          rw [← hi4] at HS4 HA4
          have HI4 : Hid (i4 + (rest (q :: ps)).length = n) := by show _ = _; rw [hi4]; rw [List.length_append] at hlen4; omega
          have hi4' : i3 < i4 := by omega
          clear hmm ha4 hlen4 hi4
          go_wp2_with fail
          refine HS4.out.go.mono ?_
          rintro e w3 ⟨rfl, rfl⟩
          go_wp2
          go_roundw
          case rel => exact ⟨i4, q, ps, stepP σ p, rfl, HI4.out, HA4.out, HL3.out, HB3.out, fun r hr => HOk.out r (by simp at hr ⊢; exact .inr hr), HRn2.out⟩
          case measure => simp [intOf]; omega
      · have HV : Hid (vIdx p.K = none) := hv
        have HVO : Hid (vOk p.K = true) := hvo
        rw [hvo, vPtr_no hv]
        clear hv hvo
        go_wp2_with fail
        refine (HRd.out w2 HB2.out).sk2.go.mono ?_
        rintro e w2 ⟨rfl, rfl⟩
        go_wp2_with fail
        refine (HRd.out w2 HB2.out).pe2.go.mono ?_
        rintro e w3 ⟨rfl, rfl⟩
        have HL3 : Hid (Line w2 g (stepP σ p)) := by show Line _ _ _; unfold stepP; rw [HV.out]; exact HL2.out
        have HB3 : Hid (Below g w w2) := HB2.out
        clear d1
        go_wp2_with fail
        refine (HRd.out w2 HB3.out).sk3.go.mono ?_
        rintro e w2 ⟨rfl, rfl⟩
        have hmm := (HRd.out w2 HB3.out).m
        have HRn2 : Hid (runP (p0 :: ps0) slot0 = runP ps (stepP σ p)) := by
          show _ = _
          rw [HRn.out, runP, if_pos HVO.out]
        rcases ps with _ | ⟨q, ps⟩
        · have hc3 := hmm.head
          have hi3e : i3 + 1 = n := HF7.out
          have t3 : ((i3 : Int) + 1 == (n : Int)) = true := by apply beq_iff_eq.2; omega
          clear hmm
          go_wp2
          go_ret
          exact ⟨HB3.out, .inl ⟨stepP σ p, by rw [HRn2.out]; rfl, rfl, HL3.out⟩⟩
        · have hc3 := hmm.head
          have ha4 := hmm.tail
          have hlen4 : i3 + 1 + (q.W0 ++ rest (q :: ps)).length = n := by
            have := HF7.out
            unfold more at this
            rw [List.length_cons] at this
            omega
          have HS4 : Hid (Sk b n cap (i3 + 1) (i3 + 1 + q.W0.length) w2) := skip_at hlen4 HM.out ha4 (HOk.out q (by simp)).w0 ⟨34, _, rest_cons q ps, rfl⟩
          have HA4 : Hid (At w2 b (i3 + 1 + q.W0.length) (rest (q :: ps))) := ha4.right
          obtain ⟨i4, hi4⟩ : ∃ i4, i4 = i3 + 1 + q.W0.length := ⟨_, rfl⟩
          rw [← hi4] at HS4 HA4
          have HI4 : Hid (i4 + (rest (q :: ps)).length = n) := by show _ = _; rw [hi4]; rw [List.length_append] at hlen4; omega
          have hi4' : i3 < i4 := by omega
          clear hmm ha4 hlen4 hi4
          go_wp2_with fail
          refine HS4.out.go.mono ?_
          rintro e w2 ⟨rfl, rfl⟩
          go_wp2
          go_roundw
          case rel => exact ⟨i4, q, ps, stepP σ p, rfl, HI4.out, HA4.out, HL3.out, HB3.out, fun r hr => HOk.out r (by simp at hr ⊢; exact .inr hr), HRn2.out⟩
          case measure => simp [intOf]; omega
      · have HVO : Hid (vOk p.K = false) := hvo
        rw [hvo]
        clear hvo
        go_wp2
        go_ret
        refine ⟨HB2.out, .inr ⟨?_, rfl, σ, HL2.out⟩⟩
        rw [HRn.out, runP, HVO.out]; rfl

end Go.Proofs.Qxb6000782a
