/- THE RENDERED OBJECT, piece by piece (plain). -/
import Derived.Test.Qxb6000782aRead
namespace Go.Proofs.Qxb6000782a
open Go.RowKit
set_option linter.unusedVariables false
set_option linter.unusedSimpArgs false

def body (p : Pair) : List Int := 34 :: (p.K ++ 34 :: (p.W1 ++ 58 :: (p.W2 ++ (p.T ++ p.W3))))

theorem rest_body (p : Pair) (ps : List Pair) : rest (p :: ps) = body p ++ more ps := by
  rw [rest_cons]; unfold body; simp [List.append_assoc]

theorem more_body (p : Pair) (ps : List Pair) : more (p :: ps) = 44 :: (p.W0 ++ body p) ++ more ps := by
  show 44 :: (p.W0 ++ rest (p :: ps)) = _
  rw [rest_body]; simp [List.append_assoc]

/-- What the first j rounds write behind '{' and its white space. -/
def pre (mk : Nat → Pair) : Nat → List Int
  | 0 => []
  | j + 1 => pre mk j ++ ((if j = 0 then [] else 44 :: (mk j).W0) ++ body (mk j))

def pairs (mk : Nat → Pair) (i m : Nat) : List Pair := (List.range' i m).map mk

theorem pairs_cons (mk : Nat → Pair) (i m : Nat) : pairs mk i (m + 1) = mk i :: pairs mk (i + 1) m := by
  unfold pairs; rw [List.range'_succ]; rfl

theorem pre_more (mk : Nat → Pair) (N : Nat) : ∀ i, i + 1 ≤ N → pre mk (i + 1) ++ more (pairs mk (i + 1) (N - (i + 1))) = rest (pairs mk 0 N) := by
  intro i
  induction i with
  | zero =>
    intro h
    obtain ⟨M, rfl⟩ : ∃ M, N = M + 1 := ⟨N - 1, by omega⟩
    rw [pairs_cons, rest_body]
    simp [pre]
  | succ i ih =>
    intro h
    rw [← ih (by omega)]
    obtain ⟨M, hM⟩ : ∃ M, N - (i + 1) = M + 1 := ⟨N - (i + 1) - 1, by omega⟩
    rw [hM, pairs_cons, more_body, show N - (i + 1 + 1) = M by omega]
    rw [pre, if_neg (by omega)]
    simp [List.append_assoc]

theorem pre_all (mk : Nat → Pair) (N : Nat) : pre mk N ++ [125] = rest (pairs mk 0 N) := by
  cases N with
  | zero => rfl
  | succ N =>
    have := pre_more mk (N + 1) N (Nat.le_refl _)
    rw [Nat.sub_self] at this
    exact this

theorem runP_eq (ps : List Pair) : ∀ σ, runP ps σ = if ps.all (fun p => vOk p.K) = true then some (ps.foldl stepP σ) else none := by
  induction ps with
  | nil => intro σ; rfl
  | cons p ps ih =>
    intro σ
    rw [runP]
    cases h : vOk p.K
    · simp [h]
    · rw [if_pos rfl, ih]; simp [h]

/-- The slots after j rounds, and whether a key was refused. -/
def slots (mk : Nat → Pair) : Nat → (Nat → Slot)
  | 0 => slot0
  | j + 1 => stepP (slots mk j) (mk j)
def allOk (mk : Nat → Pair) : Nat → Bool
  | 0 => true
  | j + 1 => allOk mk j && vOk (mk j).K

theorem pairs_snoc (mk : Nat → Pair) (j : Nat) : pairs mk 0 (j + 1) = pairs mk 0 j ++ [mk j] := by
  unfold pairs; rw [List.range'_concat]; simp

theorem runP_slots (mk : Nat → Pair) (N : Nat) : runP (pairs mk 0 N) slot0 = if allOk mk N = true then some (slots mk N) else none := by
  rw [runP_eq]
  have h : ∀ j, (pairs mk 0 j).all (fun p => vOk p.K) = allOk mk j ∧ (pairs mk 0 j).foldl stepP slot0 = slots mk j := by
    intro j
    induction j with
    | zero => exact ⟨rfl, rfl⟩
    | succ j ih =>
      rw [pairs_snoc]
      constructor
      · rw [List.all_append, ih.1]; simp [allOk]
      · rw [List.foldl_append, ih.2]; rfl
  rw [(h N).1, (h N).2]

theorem mem_pairs {mk : Nat → Pair} {i m : Nat} {p : Pair} (h : p ∈ pairs mk i m) : ∃ j, p = mk j := by
  obtain ⟨j, _, rfl⟩ := List.mem_map.1 h
  exact ⟨j, rfl⟩

theorem wsB_sps (c : Int) : Sps (wsB c) := by
  intro d hd
  unfold wsB at hd
  split at hd
  · simp at hd; subst hd; rfl
  · split at hd
    · simp at hd; subst hd; rfl
    · split at hd
      · simp at hd; rcases hd with rfl | rfl <;> rfl
      · split at hd
        · simp at hd; rcases hd with rfl | rfl | rfl | rfl <;> rfl
        · cases hd

theorem wsAt_sps (wz : List Int) (s : Nat) : Sps (wsAt wz s) := by
  unfold wsAt
  split
  · exact wsB_sps _
  · intro c hc; cases hc

def mkP (ks ss : List ByteArray) (us : List Nat) (wz : List Int) (j : Nat) : Pair :=
  ⟨wsAt wz (4 * j), pbs (ks.getD j .empty), wsAt wz (4 * j + 1), wsAt wz (4 * j + 2), tokOf ss us j, wsAt wz (4 * j + 3)⟩

theorem mkP_ok (ks ss : List ByteArray) (us : List Nat) (wz : List Int) (hu : ∀ u ∈ us, u < 18446744073709551616) (j : Nat) : (mkP ks ss us wz j).Ok :=
  ⟨wsAt_sps _ _, wsAt_sps _ _, wsAt_sps _ _, wsAt_sps _ _, pbs_good _, tokOf_isT ss us j hu⟩

end Go.Proofs.Qxb6000782a
