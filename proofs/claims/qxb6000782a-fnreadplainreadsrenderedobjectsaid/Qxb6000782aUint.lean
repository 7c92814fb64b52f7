/- THE WALK OF 'zzAppendUint'. -/
import Derived.Test.Qxb6000782aPlain
namespace Go.Proofs.Qxb6000782a
open Go.RowKit
set_option linter.unusedVariables false
set_option linter.unusedSimpArgs false

/-- The digits of u ahead of ds (f bounds their number). -/
def du : Nat → Nat → List Int → List Int
  | 0, _, ds => ds
  | f + 1, u, ds => if u / 10 = 0 then ((48 + u % 10 : Nat) : Int) :: ds else du f (u / 10) (((48 + u % 10 : Nat) : Int) :: ds)
def digits (u : Nat) : List Int := du 20 u []

theorem du_digs (f : Nat) : ∀ (u : Nat) (ds : List Int), (∀ d ∈ ds, Tok.dig d = true) → u < 10 ^ (f + 1) → (u ≠ 0 ∨ ds = []) →
    (∀ d ∈ du (f + 1) u ds, Tok.dig d = true) ∧ ∃ d r, du (f + 1) u ds = d :: r ∧ (d = 48 → r = []) := by
  induction f with
  | zero =>
    intro u ds hd hu h0
    unfold du
    have hq : u / 10 = 0 := by simp at hu; omega
    rw [if_pos hq]
    refine ⟨?_, _, _, rfl, ?_⟩
    · intro d hd'
      rcases List.mem_cons.1 hd' with rfl | h
      · unfold Tok.dig; simp; omega
      · exact hd d h
    · intro e
      rcases h0 with h | h
      · simp at hu; omega
      · exact h
  | succ f ih =>
    intro u ds hd hu h0
    unfold du
    have hdd : ∀ d ∈ ((48 + u % 10 : Nat) : Int) :: ds, Tok.dig d = true := by
      intro d hd'
      rcases List.mem_cons.1 hd' with rfl | h
      · unfold Tok.dig; simp; omega
      · exact hd d h
    split
    · rename_i hq
      refine ⟨hdd, _, _, rfl, ?_⟩
      intro e
      rcases h0 with h | h
      · omega
      · exact h
    · rename_i hq
      exact ih _ _ hdd (by rw [Nat.pow_succ] at hu; omega) (.inl hq)

theorem du_len (f : Nat) : ∀ (u : Nat) (ds : List Int), (du f u ds).length ≤ f + ds.length := by
  induction f with
  | zero => intro u ds; simp [du]
  | succ f ih =>
    intro u ds
    unfold du
    split
    · simp; omega
    · have := ih (u / 10) (((48 + u % 10 : Nat) : Int) :: ds)
      rw [List.length_cons] at this; omega

theorem set_zero_end (m : Nat) (x : Value) (L : List Value) : (List.replicate (m + 1) (Value.int .u8 0) ++ L).set m x = List.replicate m (Value.int .u8 0) ++ x :: L := by
  rw [List.replicate_succ', List.append_assoc, List.set_append_right _ _ (by simp)]
  simp

theorem slice66 (w : World) (g k : Nat) (hk : k < 20) : (Instr.sliceAt 66 (.pointer (some ⟨g, 0, none⟩)) (some (.int .i64 k)) none none).run Try.prog w = .ok (.slice (some ⟨g, k, none⟩) (20 - k) (20 - k)) w := by
  have hl : Try.prog.arrayLen 66 = 20 := by kernel_rfl
  rw [run_sliceAt_array_l (P := Try.prog) w 66 ⟨g, 0, none⟩ (by kernel_rfl) .i64 k (by omega) (by rw [hl]; omega), hl]
  have he : Try.prog.elem 66 = 5 := by kernel_rfl
  rw [he]
  simp [go_sem, slicedAt, addr_add, show ¬ 20 = k by omega]

/-- A row in a new block; of the old blocks none was written. -/
def Fresh (w : World) (zs : List Int) (e : Ending) (w' : World) : Prop := ∃ v', e = .returned v' ∧ Row w' v' zs ∧ Below w.heap.size w w' ∧ ∀ b, v'.ownBlock = some b → w.heap.size ≤ b

set_option maxHeartbeats 400000 in
theorem zzAppendUint_any (u : Nat) (w : World) (hu : u < 18446744073709551616) :
    Calls Try.prog 36 #[.slice none 0 0, .int .u64 u] w fun e w' => Fresh w (digits u) e w' := by
  go_enter Try.func36, Try.ntmps36
  go_wp2
  go_loopw [1, 6] (fun x k wr => ∃ (r u' : Nat) (ds : List Int), r ≤ 20 ∧ u' < 18446744073709551616 ∧ k = .int .i64 ((20 - r : Nat) : Int) ∧ x = .int .u64 u' ∧ Hid (ds.length = r ∧ u' < 10 ^ (20 - r) ∧ (r = 0 ∨ u' ≠ 0) ∧ digits u = du (20 - r) u' ds ∧ wr.ownsRow 0 66 1 (.slice (some ⟨w.heap.size, 0, none⟩) 20 20) 20 (List.replicate (20 - r) (Value.int .u8 0) ++ ds.map (Value.int .u8)) ∧ Below w.heap.size w wr)) (fun _ k _ => (intOf k).toNat)
  case atStart =>
    refine ⟨0, u, [], Nat.zero_le _, hu, rfl, rfl, rfl, by omega, .inl rfl, rfl, ?_, ?_⟩
    · have := World.ownsRow_lit (base := 0) (e := 66) (size := 1) w (List.replicate 20 (Value.int .u8 0)).toArray 20 (Nat.zero_le _) (by decide) (by simp)
      simpa using this
    · exact (Below.refl _ _).alloc (Nat.le_refl _) _
  case round =>
    obtain ⟨r, u', ds, hr, hu', rfl, rfl, HO⟩ := hrel
    have hr20 : r < 20 := by
      obtain ⟨_, h1, h2, _⟩ := HO.out
      rcases Nat.lt_or_ge r 20 with h | h
      · exact h
      · have : r = 20 := by omega
        subst this
        simp at h1
        omega
    obtain ⟨k, hk⟩ : ∃ k : Nat, 20 - r = k + 1 := ⟨19 - r, by omega⟩
    have hk19 : k ≤ 19 := by omega
    have HK : Hid (k = 19 - r) := by show _ = _; omega
    rw [hk] at HO ⊢
    obtain ⟨W, hW⟩ : ∃ W, W = wr.setCell ⟨w.heap.size, k, none⟩ (.int .u8 (48 + (u' : Int) % 10)) := ⟨_, rfl⟩
    have hold : ∃ o, wr.cell? ⟨w.heap.size, k, none⟩ = some o := by
      have := HO.out.2.2.2.2.1.cellAt k (by omega)
      rw [this]
      have hl : k < (List.replicate (k + 1) (Value.int .u8 0) ++ ds.map (Value.int .u8)).length := by simp; omega
      exact ⟨_, List.getElem?_eq_getElem hl⟩
    obtain ⟨o, hold⟩ := hold
    have hfr := HO.out.2.2.2.2.1.frozenAt k
    have e48 : ((48 + u' % 10 : Nat) : Int) = 48 + (u' : Int) % 10 := by omega
    have HS : Hid (W.ownsRow 0 66 1 (.slice (some ⟨w.heap.size, 0, none⟩) 20 20) 20 (List.replicate k (Value.int .u8 0) ++ ((48 + (u' : Int) % 10) :: ds).map (Value.int .u8)) ∧ Below w.heap.size w W) := by
      rw [hW]
      have hst := (HO.out.2.2.2.2.1.stored k (.int .u8 (48 + (u' : Int) % 10)))
      rw [set_zero_end] at hst
      exact ⟨by simpa using hst.1, HO.out.2.2.2.2.2.setCell (Nat.le_refl _) _⟩
    by_cases hq : u' / 10 = 0
    · have t : ((u' : Int) / 10 == 0) = true := by apply beq_iff_eq.2; omega
      have HD : Hid (digits u = (48 + (u' : Int) % 10) :: ds) := by
        show _ = _
        rw [HO.out.2.2.2.1]; unfold du; rw [if_pos hq, e48]
      have HL : Hid (ds.length = r) := HO.out.1
      clear HO e48 hk hq
      have hcell : ∀ j, j < ((48 + (u' : Int) % 10) :: ds).length → W.cell? ((⟨w.heap.size, k, none⟩ : Addr).add j) = some (.int .u8 (((48 + (u' : Int) % 10) :: ds).getD j 0)) := by
        intro j hj
        rw [addr_add, HS.out.1.cellAt (k + j) (by have := HL.out; have := HK.out; rw [List.length_cons] at hj; omega)]
        rw [List.getElem?_append_right (by simp), List.length_replicate, Nat.add_sub_cancel_left, List.getElem?_map, getD_some hj]
        rfl
      have hnil : Row W (.slice none 0 0) [] := World.ownsRow_nil W _ 5 1
      have HC : Hid _ := hcell
      have HL2 : Hid (((48 + (u' : Int) % 10) :: ds).length = 20 - k) := by show _ = _; rw [List.length_cons, HL.out]; have := HK.out; omega
      clear hcell
      go_wp2_with fail
      rw [slice66 _ _ _ (by omega)]
      go_wp2_with (at_builtin; rw [← hW]; refine wpList_append_mine _ rfl _ _ rfl (.slice none 0 0) [] ((48 + (u' : Int) % 10) :: ds) rfl hnil ⟨w.heap.size, k, none⟩ (20 - k) (20 - k) (by first | rfl | (simp; done) | trace_state) HL2.out HC.out (by simp; omega) ?_; intro v' w1 hrow hpush)
      have HP : Hid _ := hrow
      have HQ : Hid _ := hpush
      clear hrow hpush
      go_wp2
      go_ret
      refine ⟨v', rfl, by rw [HD.out]; exact HP.out, HS.out.2.trans (HQ.out.below HS.out.2.size (by intro b hb; cases hb)), ?_⟩
      intro b hb
      rcases HQ.out.moved with h | ⟨b', h, hb'⟩
      · rw [hb] at h; cases h
      · rw [hb] at h; cases h; exact Nat.le_trans HS.out.2.size hb'
    · have t : ((u' : Int) / 10 == 0) = false := by apply beq_eq_false_iff_ne.2; omega
      have HR : Hid (digits u = du k (u' / 10) ((48 + (u' : Int) % 10) :: ds) ∧ ds.length = r ∧ u' / 10 < 10 ^ k ∧ u' / 10 ≠ 0) := by
        obtain ⟨h1, h2, h3, h4, h5⟩ := HO.out
        refine ⟨?_, h1, ?_, hq⟩
        · rw [h4]; conv => lhs; unfold du
          rw [if_neg hq, e48]
        · rw [Nat.pow_succ] at h2; omega
      clear HO e48 hk hq
      go_wp2
      rw [← hW]
      go_roundw
      case rel =>
        refine ⟨r + 1, u' / 10, (48 + (u' : Int) % 10) :: ds, by omega, by omega, ?_, ?_, ?_⟩
        · have := HK.out; go_num
        · go_num
        · have h := HR.out
          have e : 20 - (r + 1) = k := by have := HK.out; omega
          rw [e]
          exact ⟨by rw [List.length_cons, h.2.1], h.2.2.1, .inr h.2.2.2, h.1, HS.out.1, HS.out.2⟩
      case measure => simp [intOf]

end Go.Proofs.Qxb6000782a
