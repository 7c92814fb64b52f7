/- WALKS: lowerASCII, asciiEqualFold, zzEqualBytes, zzIsLetter. -/
import Derived.Test.Qxb6000782aScan
import Derived.WalkSpells
import Derived.Deep.QuietTactic
import Derived.BigQuiet
namespace Go.Proofs.Qxb6000782a
open Go.RowKit
set_option linter.unusedVariables false
set_option linter.unusedSimpArgs false

theorem quiet_same {P : Program} {f : FuncId} {args : Array Value} {w : World} {n : Nat} {v : Value}
    (h : Calls P f args (w.drewN n) fun e w' => e = .returned v ∧ w.drewN n = w') : Calls P f args (w.drewN n) fun e w'' => e = .returned v ∧ ∃ m, w'' = w.drewN m :=
  h.mono fun _ _ ⟨he, hm⟩ => ⟨he, n, hm.symm⟩

theorem ret_u8 {a b : Int} (h : a = b) : Ending.returned (.int .u8 a) = .returned (.int .u8 b) := by rw [h]

/-- A small letter for a capital. -/
def lo (c : Int) : Int := if 65 ≤ c ∧ c ≤ 90 then c + 32 else c
/-- Is it a letter? -/
def let1 (c : Int) : Bool := (decide (65 ≤ c) && decide (c ≤ 90)) || (decide (97 ≤ c) && decide (c ≤ 122))

theorem lowerASCII_any (c : Int) (w : World) (h0 : 0 ≤ c) (h1 : c ≤ 255) :
    Calls Try.prog 48 #[.int .u8 c] w fun e w' => e = .returned (.int .u8 (lo c)) ∧ w = w' := by
  unfold lo
  by_cases h2 : 65 ≤ c ∧ c ≤ 90
  · rw [if_pos h2]
    obtain ⟨h2, h3⟩ := h2
    go_enter Try.func48, Try.ntmps48
    go_wp2
    go_ret
    exact ⟨ret_u8 (by omega), rfl⟩
  · rw [if_neg h2]
    rcases (show c < 65 ∨ (65 ≤ c ∧ 90 < c) by omega) with h3 | ⟨h3, h4⟩
    all_goals
      clear h2
      go_enter Try.func48, Try.ntmps48
      go_wp2
      go_ret
      exact ⟨rfl, rfl⟩

theorem isLetter_any (c : Int) (w : World) :
    Calls Try.prog 17 #[.int .u8 c] w fun e w' => e = .returned (.bool (let1 c)) ∧ w = w' := by
  unfold let1
  by_cases h2 : 65 ≤ c <;> by_cases h3 : c ≤ 90 <;> by_cases h4 : 97 ≤ c <;> by_cases h5 : c ≤ 122
  all_goals
    first
    | (exfalso; omega)
    | (go_enter Try.func17, Try.ntmps17
       go_wp2
       go_ret
       exact ⟨ret_bool (by simp [h2, h3, h4, h5]), rfl⟩)

/-- The bytes of a string, as numbers. -/
def bs (s : ByteArray) : List Int := s.data.toList.map fun u => (u.toNat : Int)

/-- Bytes. -/
def Byt (zs : List Int) : Prop := ∀ c ∈ zs, 0 ≤ c ∧ c ≤ 255

theorem Byt.at {zs : List Int} (h : Byt zs) (k : Nat) : 0 ≤ zs.getD k 0 ∧ zs.getD k 0 ≤ 255 := by
  rw [List.getD_eq_getElem?_getD]
  rcases Nat.lt_or_ge k zs.length with hk | hk
  · rw [List.getElem?_eq_getElem hk]; exact h _ (List.getElem_mem hk)
  · rw [List.getElem?_eq_none hk]; simp

/-- asciiEqualFold of bytes and a name. -/
def foldEq (zs ns : List Int) : Bool := zs.map lo == ns.map lo

theorem bs_length (s : ByteArray) : (bs s).length = s.size := by simp [bs]

theorem bs_at (s : ByteArray) (k : Nat) (h : k < s.size) : (bs s)[k]? = some (s[k].toNat : Int) := by
  unfold bs
  rw [List.getElem?_map, List.getElem?_eq_getElem (by simpa using h)]
  rfl

theorem fold_no {zs ns : List Int} {k : Nat} {d e : Int} (hd : zs[k]? = some d) (he : ns[k]? = some e) (h : (lo d != lo e) = true) : foldEq zs ns = false := by
  unfold foldEq
  rw [beq_eq_false_iff_ne]
  intro hh
  have := congrArg (fun l => l[k]?) hh
  simp only [List.getElem?_map, hd, he, Option.map_some, Option.some.injEq] at this
  rw [this] at h
  simp at h

theorem fold_snoc {zs ns : List Int} {k : Nat} {d e : Int} (hd : zs[k]? = some d) (he : ns[k]? = some e) (h : (lo d != lo e) = false) (hp : (zs.take k).map lo = (ns.take k).map lo) :
    (zs.take (k + 1)).map lo = (ns.take (k + 1)).map lo := by
  rw [List.take_add_one, List.take_add_one, hd, he]
  simp only [Option.toList_some, List.map_append, List.map_cons, List.map_nil, hp]
  have : lo d = lo e := by simpa using h
  rw [this]

theorem fold_all {zs ns : List Int} {k : Nat} (h1 : zs.length ≤ k) (h2 : ns.length ≤ k) (hp : (zs.take k).map lo = (ns.take k).map lo) : foldEq zs ns = true := by
  unfold foldEq
  rw [List.take_of_length_le h1, List.take_of_length_le h2] at hp
  rw [hp]
  exact beq_self_eq_true _

theorem getD_some {zs : List Int} {k : Nat} (h : k < zs.length) : zs[k]? = some (zs.getD k 0) := by
  rw [List.getD_eq_getElem?_getD, List.getElem?_eq_getElem h]; rfl

set_option maxHeartbeats 400000 in
theorem asciiEqualFold_any (b off cap n : Nat) (zs : List Int) (s : ByteArray) (w : World) (hn : zs.length = n) (hm : n ≤ maxLen) (hs : s.size ≤ maxLen) (hb : Byt zs) (hc : At w b off zs) :
    Calls Try.prog 43 #[.slice (some ⟨b, off, none⟩) n cap, .string s] w fun e w' => e = .returned (.bool (foldEq zs (bs s))) ∧ ∃ m, w' = w.drewN m := by
  unfold maxLen at hm hs
  by_cases hl : (n : Int) = (s.size : Int)
  · have hne : ((n : Int) != (s.size : Int)) = false := by simp [hl]
    have HC : Hid (At w b off zs) := hc
    have HN : Hid (zs.length = n) := hn
    have HL : Hid (n = s.size) := by show _ = _; omega
    clear hc hn hl
    go_enter Try.func43, Try.ntmps43
    go_wp2
    go_loopw [13] (fun i wr => ∃ k : Nat, k ≤ n ∧ i = .int .i64 k ∧ Hid (∃ q, wr = w.drewN q) ∧ Hid ((zs.take k).map lo = ((bs s).take k).map lo)) (fun i _ => n - (intOf i).toNat)
    case atStart => exact ⟨0, Nat.zero_le _, rfl, ⟨0, rfl⟩, rfl⟩
    case round =>
      obtain ⟨k, hk, rfl, HW, hpre⟩ := hrel
      by_cases hlt : k < n
      · obtain ⟨d, hd⟩ : ∃ d, d = zs.getD k 0 := ⟨_, rfl⟩
        have hcell : wr.cell? ⟨b, off + k, none⟩ = some (.int .u8 d) := by
          obtain ⟨q, hq⟩ := HW.out
          rw [hd, hq]; exact HC.out k (by rw [HN.out]; exact hlt)
        have hdb := hb.at k
        rw [← hd] at hdb
        obtain ⟨hd0, hd1⟩ := hdb
        have HD : Hid (d = zs.getD k 0) := hd
        have hks : k < s.size := by rw [← HL.out]; exact hlt
        have hks' : (k : Int) < (s.size : Int) := by omega
        clear hd
        have hu : (s[k].toNat : Int) ≤ 255 := by have := s[k].toNat_lt; omega
        go_wp2
        go_quiet ((go_at_call 48; refine quiet_same (lowerASCII_any _ _ ?_ ?_) <;> omega))
        go_wp2
        · go_ret
          obtain ⟨q, hq⟩ := HW.out
          refine ⟨ret_bool ?_, q + nq, by rw [hq, World.drewN_drewN]⟩
          exact (fold_no (k := k) (d := d) (by rw [HD.out]; exact getD_some (by rw [HN.out]; exact hlt)) (bs_at s k hks) (by assumption)).symm
        · go_roundw
          case rel =>
            refine ⟨k + 1, by omega, by go_num, ?_, ?_⟩
            · obtain ⟨q, hq⟩ := HW.out
              exact ⟨q + nq, by rw [hq, World.drewN_drewN]⟩
            · exact fold_snoc (k := k) (d := d) (by rw [HD.out]; exact getD_some (by rw [HN.out]; exact hlt)) (bs_at s k hks) (by assumption) hpre.out
          case measure => simp [intOf]; omega
      · go_wp2
        go_ret
        obtain ⟨q, hq⟩ := HW.out
        exact ⟨ret_bool (fold_all (k := k) (by rw [HN.out]; omega) (by rw [bs_length, ← HL.out]; omega) hpre.out).symm, q, hq⟩
  · have hne : ((n : Int) != (s.size : Int)) = true := by simp [bne, hl]
    have HF : Hid (foldEq zs (bs s) = false) := by
      show _ = _
      unfold foldEq
      rw [beq_eq_false_iff_ne]
      intro h
      have := congrArg List.length h
      simp [bs] at this
      apply hl
      rw [← hn, this]
    clear hl hc
    go_enter Try.func43, Try.ntmps43
    go_wp2
    go_ret
    exact ⟨ret_bool HF.out.symm, 0, rfl⟩

/-- zzEqualBytes, two rows that lie somewhere. -/
theorem eq_no {zs ns : List Int} {k : Nat} {d e : Int} (hd : zs[k]? = some d) (he : ns[k]? = some e) (h : (d != e) = true) : (zs == ns) = false := by
  rw [beq_eq_false_iff_ne]
  intro hh
  rw [hh, he] at hd
  simp at hd
  rw [hd] at h
  simp at h

theorem eq_snoc {zs ns : List Int} {k : Nat} {d e : Int} (hd : zs[k]? = some d) (he : ns[k]? = some e) (h : (d != e) = false) (hp : zs.take k = ns.take k) : zs.take (k + 1) = ns.take (k + 1) := by
  rw [List.take_add_one, List.take_add_one, hd, he, hp]
  have : d = e := by simpa using h
  rw [this]

theorem eq_all {zs ns : List Int} {k : Nat} (h1 : zs.length ≤ k) (h2 : ns.length ≤ k) (hp : zs.take k = ns.take k) : (zs == ns) = true := by
  rw [List.take_of_length_le h1, List.take_of_length_le h2] at hp
  rw [hp]
  exact beq_self_eq_true _

set_option maxHeartbeats 400000 in
theorem zzEqualBytes_any (b off cap b' off' cap' n n' : Nat) (zs ns : List Int) (w : World) (hn : zs.length = n) (hn' : ns.length = n') (hm : n ≤ maxLen) (hm' : n' ≤ maxLen) (hc : At w b off zs) (hc' : At w b' off' ns) :
    Calls Try.prog 19 #[.slice (some ⟨b, off, none⟩) n cap, .slice (some ⟨b', off', none⟩) n' cap'] w fun e w' => e = .returned (.bool (zs == ns)) ∧ ∃ m, w' = w.drewN m := by
  unfold maxLen at hm hm'
  by_cases hl : (n : Int) = (n' : Int)
  · have hne : ((n : Int) != (n' : Int)) = false := by simp [hl]
    have HC : Hid (At w b off zs) := hc
    have HC' : Hid (At w b' off' ns) := hc'
    have HN : Hid (zs.length = n) := hn
    have HN' : Hid (ns.length = n') := hn'
    have HL : Hid (n = n') := by show _ = _; omega
    have hll : n ≤ n' := by omega
    clear hc hn hl hn' hc'
    go_enter Try.func19, Try.ntmps19
    go_wp2
    go_loopw [5] (fun i wr => ∃ k : Nat, k ≤ n ∧ i = .int .i64 k ∧ Hid (∃ q, wr = w.drewN q) ∧ Hid (zs.take k = ns.take k)) (fun i _ => n - (intOf i).toNat)
    case atStart => exact ⟨0, Nat.zero_le _, rfl, ⟨0, rfl⟩, rfl⟩
    case round =>
      obtain ⟨k, hk, rfl, HW, hpre⟩ := hrel
      by_cases hlt : k < n
      · obtain ⟨d, hd⟩ : ∃ d, d = zs.getD k 0 := ⟨_, rfl⟩
        have hcell : wr.cell? ⟨b, off + k, none⟩ = some (.int .u8 d) := by
          obtain ⟨q, hq⟩ := HW.out
          rw [hd, hq]; exact HC.out k (by rw [HN.out]; exact hlt)
        have HD : Hid (d = zs.getD k 0) := hd
        obtain ⟨d', hd'⟩ : ∃ d, d = ns.getD k 0 := ⟨_, rfl⟩
        have hcell' : wr.cell? ⟨b', off' + k, none⟩ = some (.int .u8 d') := by
          obtain ⟨q, hq⟩ := HW.out
          rw [hd', hq]; exact HC'.out k (by rw [HN'.out, ← HL.out]; exact hlt)
        have HD' : Hid (d' = ns.getD k 0) := hd'
        have hlt' : k < n' := by omega
        have i1 : (k : Int) < (n : Int) := by omega
        have i2 : (k : Int) < (n' : Int) := by omega
        clear hd hd'
        go_wp2
        go_quiet (fail)
        go_wp2
        · go_ret
          obtain ⟨q, hq⟩ := HW.out
          refine ⟨ret_bool ?_, q + nq, by rw [hq, World.drewN_drewN]⟩
          exact (eq_no (k := k) (d := d) (e := d') (by rw [HD.out]; exact getD_some (by rw [HN.out]; exact hlt)) (by rw [HD'.out]; exact getD_some (by rw [HN'.out]; exact hlt')) (by assumption)).symm
        · go_roundw
          case rel =>
            refine ⟨k + 1, by omega, by go_num, ?_, ?_⟩
            · obtain ⟨q, hq⟩ := HW.out
              exact ⟨q + nq, by rw [hq, World.drewN_drewN]⟩
            · exact eq_snoc (k := k) (d := d) (e := d') (by rw [HD.out]; exact getD_some (by rw [HN.out]; exact hlt)) (by rw [HD'.out]; exact getD_some (by rw [HN'.out]; exact hlt')) (by assumption) hpre.out
          case measure => simp [intOf]; omega
      · go_wp2
        go_ret
        obtain ⟨q, hq⟩ := HW.out
        exact ⟨ret_bool (eq_all (k := k) (by rw [HN.out]; omega) (by rw [HN'.out, ← HL.out]; omega) hpre.out).symm, q, hq⟩
  · have hne : ((n : Int) != (n' : Int)) = true := by simp [bne, hl]
    have HF : Hid ((zs == ns) = false) := by
      show _ = _
      rw [beq_eq_false_iff_ne]
      intro h
      apply hl
      rw [← hn, ← hn', h]
    clear hl hc hc'
    go_enter Try.func19, Try.ntmps19
    go_wp2
    go_ret
    exact ⟨ret_bool HF.out.symm, 0, rfl⟩

end Go.Proofs.Qxb6000782a
