/- THE WALK OF '(*eventLine).value': which field a key names. -/
import Derived.Test.Qxb6000782aValues
import Derived.Test.Qxb6000782aFold
import Derived.WalkSmall
namespace Go.Proofs.Qxb6000782a
open Go.RowKit
set_option linter.unusedVariables false
set_option linter.unusedSimpArgs false

/-- The bytes 'zs' are the elements of a slice at 'a'. -/
def Has (w : World) (a : Option Addr) (zs : List Int) : Prop := zs = [] ∨ ∃ b off, a = some ⟨b, off, none⟩ ∧ At w b off zs

theorem Has.below {w wx : World} {a : Option Addr} {zs : List Int} (h : Has w a zs) (hb : Below w.heap.size w wx) : Has wx a zs := by
  rcases h with h | ⟨b, off, e, h⟩
  · exact .inl h
  · exact .inr ⟨b, off, e, fun j hj => cell_later hb (h j hj)⟩

theorem has_string {wx : World} {a : Option Addr} {zs : List Int} {n : Nat} (hn : zs.length = n) (h : Has wx a zs) (cap : Nat) : (convert 22 9 (.slice a n cap)).run Try.prog wx = .ok (.string (strOfNums zs)) wx := by
  rcases h with h | ⟨b, off, e, h⟩
  · subst h
    simp at hn
    subst hn
    cases a with
    | none => exact run_convert_bytes_nil wx 22 5 Try.underlying22 Try.underlying5 0 cap 9 Try.underlying9
    | some x =>
      rw [run_convert_bytes_string wx 22 9 5 (some x) 0 cap Try.underlying22 Try.underlying5 Try.underlying9]
      rw [run_bytesToString wx x 0 cap [] (by simp [loadCells, loadCellsFrom])]
      rfl
  · subst e
    exact run_convert_bytes_arg wx 22 5 Try.underlying22 Try.underlying5 b off n cap zs hn (fun i hi => h i (by omega)) 9 Try.underlying9

theorem asciiEqualFold_has (a : Option Addr) (cap n : Nat) (zs : List Int) (s : ByteArray) (w : World) (hn : zs.length = n) (hm : n ≤ maxLen) (hs : s.size ≤ maxLen) (h0 : 0 < s.size) (hb : Byt zs) (hc : Has w a zs) :
    Calls Try.prog 43 #[.slice a n cap, .string s] w fun e w' => e = .returned (.bool (foldEq zs (bs s))) ∧ ∃ m, w' = w.drewN m := by
  rcases hc with h | ⟨b, off, e, h⟩
  · subst h
    have h0' : n = 0 := by simpa using hn.symm
    subst h0'
    have hne : ((0 : Int) != (s.size : Int)) = true := by simp [bne]; omega
    have HF : Hid (foldEq [] (bs s) = false) := by
      show _ = _
      unfold foldEq
      rw [beq_eq_false_iff_ne]
      intro h
      have := congrArg List.length h
      simp [bs] at this
      omega
    clear hn hb
    go_enter Try.func43, Try.ntmps43
    go_wp2
    go_ret
    exact ⟨ret_bool HF.out.symm, 0, rfl⟩
  · subst e
    exact asciiEqualFold_any b off cap n zs s w hn hm hs hb h

theorem kvs_at (g j : Nat) (h : j < 6) (w : World) : (Instr.index 57 (.agg (kvs g)) (.int .i64 j)).run Try.prog w = .ok (.agg #[.string (nm j), .pointer (some ⟨g, 3 * j, none⟩)]) w := by
  rcases (show j = 0 ∨ j = 1 ∨ j = 2 ∨ j = 3 ∨ j = 4 ∨ j = 5 by omega) with rfl | rfl | rfl | rfl | rfl | rfl
  all_goals kernel_rfl

/-- Does the key read just as name j? -/
def exactAt (zs : List Int) (j : Nat) : Bool := zs == bs (nm j)
/-- Which name the key is, to the byte. -/
def vIdx (zs : List Int) : Option Nat := (List.range 6).find? (exactAt zs)
/-- Is the key one of the names, but for the case of its letters? -/
def vFold (zs : List Int) : Bool := (List.range 6).any fun j => foldEq zs (bs (nm j))
def vPtr (g : Nat) (zs : List Int) : Value := match vIdx zs with | some j => .pointer (some ⟨g, 3 * j, none⟩) | none => .pointer none
def vOk (zs : List Int) : Bool := (vIdx zs).isSome || !vFold zs

theorem bs_str {zs : List Int} (hb : Byt zs) : bs (strOfNums zs) = zs := by
  unfold bs
  rw [strOfNums_data, List.map_map]
  conv => rhs; rw [← List.map_id zs]
  refine List.map_congr_left fun c hc => ?_
  obtain ⟨h0, h1⟩ := hb c hc
  simp only [Function.comp, id, UInt8.toNat_ofNat']
  omega

theorem bytes_beq (x y : ByteArray) : (x.toList == y.toList) = true ↔ x = y := by
  rw [beq_iff_eq, ByteArray.toList_eq, ByteArray.toList_eq]
  exact ⟨fun h => ByteArray.ext (Array.toList_inj.1 h), fun h => by rw [h]⟩

theorem str_beq {zs : List Int} (hb : Byt zs) (s : ByteArray) : ((strOfNums zs).toList == s.toList) = (zs == bs s) := by
  rw [Bool.eq_iff_iff, bytes_beq, beq_iff_eq]
  constructor
  · intro h; rw [← h, bs_str hb]
  · intro h
    have : bs (strOfNums zs) = bs s := by rw [bs_str hb, h]
    unfold bs at this
    have h2 : (strOfNums zs).data.toList = s.data.toList := by
      refine List.map_inj_right (f := fun u : UInt8 => (u.toNat : Int)) ?_ |>.1 this
      intro x y hxy
      exact UInt8.toNat_inj.1 (by have : (x.toNat : Int) = (y.toNat : Int) := hxy; omega)
    exact ByteArray.ext (Array.toList_inj.1 h2)

theorem nm_size (j : Nat) : 0 < (nm j).size ∧ (nm j).size ≤ maxLen := by
  rcases (show j = 0 ∨ j = 1 ∨ j = 2 ∨ j = 3 ∨ j = 4 ∨ 5 ≤ j by omega) with rfl | rfl | rfl | rfl | rfl | h
  · decide
  · decide
  · decide
  · decide
  · decide
  · obtain ⟨k, rfl⟩ : ∃ k, j = k + 5 := ⟨j - 5, by omega⟩
    show 0 < (nm (k + 5)).size ∧ (nm (k + 5)).size ≤ maxLen
    simp only [nm]
    decide

theorem find_hit {p : Nat → Bool} {j : Nat} (h : j < 6) (hp : p j = true) (hn : ∀ i, i < j → p i = false) : (List.range 6).find? p = some j := by
  rw [List.find?_range_eq_some]
  exact ⟨hp, by simpa using h, fun i hi => by simpa using hn i hi⟩

theorem find_miss {p : Nat → Bool} (hn : ∀ i, i < 6 → p i = false) : (List.range 6).find? p = none := by
  rw [List.find?_range_eq_none]
  exact fun i hi => by simpa using hn i hi

theorem ret_val {a b : Value} {c d : Bool} (h : a = b) (h' : c = d) : Ending.returned (.tuple #[a, .bool c]) = .returned (.tuple #[b, .bool d]) := by rw [h, h']

set_option maxHeartbeats 1000000 in
theorem value_any (g : Nat) (a : Option Addr) (n cap : Nat) (zs : List Int) (w : World) (hn : zs.length = n) (hm : n ≤ maxLen) (hb : Byt zs) (hc : Has w a zs) :
    Calls Try.prog 33 #[.pointer (some ⟨g, 0, none⟩), .slice a n cap] w fun e w' => e = .returned (.tuple #[vPtr g zs, .bool (vOk zs)]) ∧ Below w.heap.size w w' := by
  have HC : Hid (Has w a zs) := hc
  have HN : Hid (zs.length = n) := hn
  have HBY : Hid (Byt zs) := hb
  have HM : Hid (n ≤ maxLen) := hm
  clear hc hn hb hm
  have hconv : Hid (∀ wx : World, Below w.heap.size w wx → (convert 22 9 (.slice a n cap)).run Try.prog wx = .ok (.string (strOfNums zs)) wx) := fun wx h => has_string HN.out (HC.out.below h) cap
  have hfold : Hid (∀ (wx : World) (j : Nat), Below w.heap.size w wx → Calls Try.prog 43 #[.slice a n cap, .string (nm j)] wx fun e w' => e = .returned (.bool (foldEq zs (bs (nm j)))) ∧ ∃ m, w' = wx.drewN m) :=
    fun wx j h => asciiEqualFold_has a cap n zs (nm j) wx HN.out HM.out (nm_size j).2 (nm_size j).1 HBY.out (HC.out.below h)
  have hold : Hid (Below w.heap.size w ((w.alloc (.cells (kvs g) 57)).alloc (.cells (kvs g) 57)).drew) := (((Below.refl _ _).alloc (Nat.le_refl _) _).alloc (by simp) _).drew
  go_enter Try.func33, Try.ntmps33
  go_wp2_with fail
  refine (values_any g _).mono ?_
  rintro e w1 ⟨rfl, rfl⟩
  unfold kvs
  go_wp2_with fail
  go_loopw [14] (fun i wr => ∃ j : Nat, j ≤ 6 ∧ i = .int .i64 j ∧ Hid (Below (w.heap.size + 2) ((w.alloc (.cells (kvs g) 57)).alloc (.cells (kvs g) 57)).drew wr) ∧ Hid (∀ i, i < j → exactAt zs i = false)) (fun i _ => 6 - (intOf i).toNat)
  case atStart => exact ⟨0, Nat.zero_le _, rfl, Below.refl _ _, fun i hi => absurd hi (Nat.not_lt_zero i)⟩
  case round =>
    obtain ⟨j, hj, rfl, HB, HNO⟩ := hrel
    have HBL : Hid (Below w.heap.size w wr) := hold.out.trans (HB.out.mono (by omega))
    have hsz : Hid (w.heap.size + 2 ≤ wr.heap.size) := by show _ ≤ _; have := HB.out.size; simp at this; omega
    by_cases hlt : j < 6
    · have hix := kvs_at g j hlt
      unfold kvs at hix
      have hlt' : (j : Int) < 6 := by omega
      have hst : ∀ o, (convert 22 9 (.slice a n cap)).run Try.prog (wr.alloc o) = .ok (.string (strOfNums zs)) (wr.alloc o) := fun o => hconv.out _ (HBL.out.alloc (by have := hsz.out; omega) o)
      cases hex : exactAt zs j
      · have hcmp : ((strOfNums zs).toList == (nm j).toList) = false := by rw [str_beq HBY.out]; exact hex
        have HEX : Hid (exactAt zs j = false) := hex
        clear hex
        go_wp2
        go_roundw
        case rel =>
          refine ⟨j + 1, by omega, by go_num, HB.out.alloc hsz.out _, fun i hi => ?_⟩
          rcases Nat.lt_or_ge i j with h | h
          · exact HNO.out i h
          · rw [show i = j from by omega]; exact HEX.out
        case measure => simp [intOf]; omega
      · have hcmp : ((strOfNums zs).toList == (nm j).toList) = true := by rw [str_beq HBY.out]; exact hex
        have HEX : Hid (exactAt zs j = true) := hex
        clear hex
        go_wp2
        go_ret2
        have hv : vIdx zs = some j := find_hit hlt HEX.out HNO.out
        exact ⟨ret_val (by simp [vPtr, hv]) (by simp [vOk, hv]), HBL.out.alloc (by have := hsz.out; omega) _⟩
    · have hv : Hid (vIdx zs = none) := find_miss fun i hi => HNO.out i (by omega)
      have hcells : ∀ k, wr.cell? ⟨w.heap.size + 1, k, none⟩ = (kvs g)[k]? := by
        intro k
        rw [HB.out.cell (by show w.heap.size + 1 < w.heap.size + 2; omega)]
        simp
      unfold kvs at hcells
      have hj6 : decide ((j : Int) < 6) = false := decide_eq_false (by omega)
      clear HNO
      go_wp2_with fail
      clear hcells hj6
      go_loopw [26] (fun i wx => ∃ j : Nat, j ≤ 6 ∧ i = .int .i64 j ∧ Hid (Below w.heap.size w wx) ∧ Hid (∀ i, i < j → foldEq zs (bs (nm i)) = false)) (fun i _ => 6 - (intOf i).toNat)
      case atStart => exact ⟨0, Nat.zero_le _, rfl, HBL.out, fun i hi => absurd hi (Nat.not_lt_zero i)⟩
      case round =>
        obtain ⟨j2, hj2, rfl, HB2, HNO⟩ := hrel
        have hsz2 : Hid (w.heap.size ≤ wr.heap.size) := HB2.out.size
        clear HB HBL hsz hold hconv
        by_cases hlt2 : j2 < 6
        · have hix := kvs_at g j2 hlt2
          unfold kvs at hix
          have hlt' : (j2 : Int) < 6 := by omega
          go_wp2_with fail
          refine (hfold.out _ j2 (HB2.out.alloc hsz2.out _)).mono ?_
          rintro e w2 ⟨rfl, m, rfl⟩
          cases hex : foldEq zs (bs (nm j2))
          · have HEX : Hid (foldEq zs (bs (nm j2)) = false) := hex
            clear hex
            go_wp2
            go_roundw
            case rel =>
              refine ⟨j2 + 1, by omega, by go_num, below_drewN (HB2.out.alloc hsz2.out _) m, fun i hi => ?_⟩
              rcases Nat.lt_or_ge i j2 with h | h
              · exact HNO.out i h
              · rw [show i = j2 from by omega]; exact HEX.out
            case measure => simp [intOf]; omega
          · have HEX : Hid (foldEq zs (bs (nm j2)) = true) := hex
            clear hex
            go_wp2
            go_ret2
            have hvf : vFold zs = true := List.any_eq_true.2 ⟨j2, by simpa using hlt2, HEX.out⟩
            exact ⟨ret_val (by simp [vPtr, hv.out]) (by simp [vOk, hv.out, hvf]), below_drewN (HB2.out.alloc hsz2.out _) m⟩
        · have hvf : Hid (vFold zs = false) := by
            show _ = _
            rw [vFold, List.any_eq_false]
            intro i hi
            rw [HNO.out i (by simp at hi; omega)]
            exact Bool.false_ne_true
          go_wp2
          go_ret2
          exact ⟨ret_val (by simp [vPtr, hv.out]) (by simp [vOk, hv.out, hvf.out]), HB2.out⟩

end Go.Proofs.Qxb6000782a
