/- THE PLAIN LAW OF 'FnValueCaseFlipKeepsTheClass': turning the case of letters does not change the class of a key. -/
import Derived.Test.Qxb6000782aZZValue
namespace Go.Proofs.Qxb6000782a
open Go.RowKit

/-- A byte of the key, turned if 'b' says so and it is a letter. -/
def flip1 (c : Int) (b : Bool) : Int := if b && let1 c then (if c ≤ 90 then c + 32 else c - 32) else c
/-- Does the mask ask for a turn at k? -/
def mbit (d : Int) : Bool := bits BinOp.and IntKind.u8 d 1 == 1
def mb (ms : List Int) (k : Nat) : Bool := decide (k < ms.length) && mbit (ms.getD k 0)
def flipped (zs ms : List Int) : List Int := (List.range zs.length).map fun k => flip1 (zs.getD k 0) (mb ms k)

theorem flipped_length (zs ms : List Int) : (flipped zs ms).length = zs.length := by simp [flipped]

theorem flipped_at (zs ms : List Int) (k : Nat) (h : k < zs.length) : (flipped zs ms)[k]? = some (flip1 (zs.getD k 0) (mb ms k)) := by
  simp [flipped, h]

theorem let1_iff (c : Int) : let1 c = true ↔ (65 ≤ c ∧ c ≤ 90) ∨ (97 ≤ c ∧ c ≤ 122) := by
  unfold let1; simp

theorem lo_flip (c : Int) (b : Bool) : lo (flip1 c b) = lo c := by
  unfold flip1
  cases b
  · simp
  · cases h : let1 c
    · simp
    · simp only [Bool.and_self, if_true]
      rcases (let1_iff c).1 h with ⟨h1, h2⟩ | ⟨h1, h2⟩
      · rw [if_pos h2]; unfold lo; rw [if_neg (by omega), if_pos ⟨h1, h2⟩]
      · rw [if_neg (by omega)]; unfold lo; rw [if_pos (by omega), if_neg (by omega)]; omega

theorem byt_flip {c : Int} (b : Bool) (h0 : 0 ≤ c) (h1 : c ≤ 255) : 0 ≤ flip1 c b ∧ flip1 c b ≤ 255 := by
  unfold flip1
  cases b
  · simp; omega
  · cases h : let1 c
    · simp; omega
    · simp only [Bool.and_self, if_true]
      rcases (let1_iff c).1 h with h | h <;> split <;> omega

theorem Byt.flipped {zs : List Int} (h : Byt zs) (ms : List Int) : Byt (flipped zs ms) := by
  intro c hc
  obtain ⟨k, _, rfl⟩ := List.mem_map.1 hc
  exact byt_flip _ (h.at k).1 (h.at k).2

theorem lo_flipped (zs ms : List Int) : (flipped zs ms).map lo = zs.map lo := by
  apply List.ext_getElem?
  intro k
  rw [List.getElem?_map, List.getElem?_map]
  rcases Nat.lt_or_ge k zs.length with h | h
  · rw [flipped_at zs ms k h, getD_some h]
    simp [lo_flip]
  · rw [List.getElem?_eq_none (by rw [flipped_length]; exact h), List.getElem?_eq_none h]

theorem fold_flipped (zs ms ns : List Int) : foldEq (flipped zs ms) ns = foldEq zs ns := by
  unfold foldEq; rw [lo_flipped]

theorem vFold_flipped (zs ms : List Int) : vFold (flipped zs ms) = vFold zs := by
  unfold vFold
  congr 1
  funext j
  exact fold_flipped zs ms _

theorem vIdx_exact {zs : List Int} {j : Nat} (h : vIdx zs = some j) : j < 6 ∧ zs = bs (nm j) := by
  refine ⟨vIdx_lt h, ?_⟩
  have := List.find?_some h
  exact beq_iff_eq.1 this

theorem vFold_of_exact {zs : List Int} {j : Nat} (h : vIdx zs = some j) : vFold zs = true := by
  obtain ⟨hj, e⟩ := vIdx_exact h
  exact List.any_eq_true.2 ⟨j, by simpa using hj, by unfold foldEq; rw [e]; exact beq_self_eq_true _⟩

/-- Every name is small letters. -/
theorem nm_small (j : Nat) (h : j < 6) : ∀ c ∈ bs (nm j), 97 ≤ c ∧ c ≤ 122 := by
  rcases (show j = 0 ∨ j = 1 ∨ j = 2 ∨ j = 3 ∨ j = 4 ∨ j = 5 by omega) with rfl | rfl | rfl | rfl | rfl | rfl
  all_goals
    intro c hc
    simp [bs, nm] at hc
    omega

theorem nm_ne (j : Nat) : bs (nm j) ≠ [] := by
  intro h
  have := (nm_size j).1
  rw [← bs_length, h] at this
  simp at this

theorem flip_small {c : Int} {b : Bool} (h0 : 97 ≤ c) (h1 : c ≤ 122) (h2 : 97 ≤ flip1 c b) : flip1 c b = c := by
  unfold flip1 at *
  cases b
  · simp
  · have : let1 c = true := (let1_iff c).2 (.inr ⟨h0, h1⟩)
    rw [this] at h2
    simp only [Bool.and_self, if_true] at h2
    rw [if_neg (by omega)] at h2
    omega

/-- Once a key names a field, every other spelling of it in another case is refused. -/
theorem flipped_refused {zs ms : List Int} {j : Nat} (h : vIdx zs = some j) (hne : (zs == flipped zs ms) = false) : vIdx (flipped zs ms) = none ∧ vFold (flipped zs ms) = true := by
  refine ⟨?_, by rw [vFold_flipped]; exact vFold_of_exact h⟩
  cases hi : vIdx (flipped zs ms) with
  | none => rfl
  | some i =>
    exfalso
    obtain ⟨hj, e⟩ := vIdx_exact h
    obtain ⟨hi6, e'⟩ := vIdx_exact hi
    have small := nm_small j hj
    have small' := nm_small i hi6
    rw [← e] at small
    rw [← e'] at small'
    have : zs = flipped zs ms := by
      apply List.ext_getElem?
      intro k
      rcases Nat.lt_or_ge k zs.length with hk | hk
      · have hm : flip1 (zs.getD k 0) (mb ms k) ∈ flipped zs ms := List.mem_of_getElem? (flipped_at zs ms k hk)
        have hz : zs.getD k 0 ∈ zs := List.mem_of_getElem? (getD_some hk)
        rw [flipped_at zs ms k hk, getD_some hk, flip_small (small _ hz).1 (small _ hz).2 (small' _ hm).1]
      · rw [List.getElem?_eq_none hk, List.getElem?_eq_none (by rw [flipped_length]; exact hk)]
    rw [← this] at hne
    simp at hne

theorem mbit_xor {c : Int} (h : let1 c = true) : bits BinOp.xor IntKind.u8 c 32 = (if c ≤ 90 then c + 32 else c - 32) := by
  have key : ∀ n : Nat, n < 256 → let1 (n : Int) = true → bits BinOp.xor IntKind.u8 (n : Int) 32 = (if (n : Int) ≤ 90 then (n : Int) + 32 else (n : Int) - 32) := by decide +kernel
  have hc := (let1_iff c).1 h
  obtain ⟨n, rfl⟩ := Int.eq_ofNat_of_zero_le (show 0 ≤ c by omega)
  exact key n (by omega) h

end Go.Proofs.Qxb6000782a
