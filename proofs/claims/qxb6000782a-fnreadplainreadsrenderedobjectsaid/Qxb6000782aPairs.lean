/- THE RENDERED OBJECT (plain), the six slots of the event line, and both against memory. -/
import Derived.Test.Qxb6000782aReset
import Derived.Test.Qxb6000782aPlainEnd
import Derived.Test.Qxb6000782aZZValue
namespace Go.Proofs.Qxb6000782a
open Go.RowKit
set_option linter.unusedVariables false
set_option linter.unusedSimpArgs false

structure Pair where
  W0 : List Int
  K : List Int
  W1 : List Int
  W2 : List Int
  T : List Int
  W3 : List Int

def Sps (l : List Int) : Prop := ∀ c ∈ l, sp c = true

structure Pair.Ok (p : Pair) : Prop where
  w0 : Sps p.W0
  w1 : Sps p.W1
  w2 : Sps p.W2
  w3 : Sps p.W3
  k : ∀ c ∈ p.K, Tok.good c = true
  t : IsT p.T

/-- What stands behind the white space after '{' or ','. -/
def rest : List Pair → List Int
  | [] => [125]
  | p :: ps => 34 :: (p.K ++ 34 :: (p.W1 ++ 58 :: (p.W2 ++ (p.T ++ (p.W3 ++ (match ps with | [] => [125] | q :: _ => 44 :: (q.W0 ++ rest ps)))))))

structure Slot where
  raw : List Int
  given : Bool
  twice : Bool

def slot0 : Nat → Slot := fun _ => ⟨[], false, false⟩
def setS (σ : Nat → Slot) (n : Nat) (t : List Int) : Nat → Slot := fun m => if m = n then ⟨t, true, (σ n).given⟩ else σ m
def stepP (σ : Nat → Slot) (p : Pair) : Nat → Slot := match vIdx p.K with | some n => setS σ n p.T | none => σ
def runP : List Pair → (Nat → Slot) → Option (Nat → Slot)
  | [], σ => some σ
  | p :: ps, σ => if vOk p.K = true then runP ps (stepP σ p) else none

/-- The event line in block g. -/
def Line (w : World) (g : Nat) (σ : Nat → Slot) : Prop := ∃ vals, Blk w g vals ∧ ∀ n, n < 6 →
  vals (3 * n + 1) = .bool (σ n).given ∧ vals (3 * n + 2) = .bool (σ n).twice ∧ Row w (vals (3 * n)) (σ n).raw ∧ (∀ i, (vals (3 * n)).ownBlock = some i → g < i) ∧
  ∀ m, m < 6 → m ≠ n → ∀ i, (vals (3 * n)).ownBlock = some i → (vals (3 * m)).ownBlock ≠ some i

theorem Row.lt {w : World} {v : Value} {zs : List Int} (h : Row w v zs) {i : Nat} (hi : v.ownBlock = some i) : i < w.heap.size := by
  rcases h.len with ⟨rfl, _⟩ | ⟨g, cap, rfl, _, hg⟩
  · cases hi
  · cases hi; exact hg

theorem Line.new {w : World} {g : Nat} (h : Blk w g vals0) : Line w g slot0 := by
  refine ⟨vals0, h, fun n hn => ⟨by unfold vals0; rw [if_neg (by omega)]; rfl, by unfold vals0; rw [if_neg (by omega)]; rfl, ?_, ?_, ?_⟩⟩
  · have e : vals0 (3 * n) = .slice none 0 0 := by unfold vals0; rw [if_pos (by omega)]
    rw [e]; exact World.ownsRow_nil w _ 5 1
  · intro i hi
    have e : vals0 (3 * n) = .slice none 0 0 := by unfold vals0; rw [if_pos (by omega)]
    rw [e] at hi; cases hi
  · intro m _ _ i hi
    have e : vals0 (3 * n) = .slice none 0 0 := by unfold vals0; rw [if_pos (by omega)]
    rw [e] at hi; cases hi

theorem Line.lt {w : World} {g : Nat} {σ : Nat → Slot} (h : Line w g σ) : g < w.heap.size := by
  obtain ⟨vals, h, _⟩ := h; exact h.lt

theorem Line.later {w w' : World} {g : Nat} {σ : Nat → Slot} (h : Line w g σ) (hb : Below w.heap.size w w') : Line w' g σ := by
  obtain ⟨vals, h1, h2⟩ := h
  refine ⟨vals, h1.keep (hb.block _ h1.lt), fun n hn => ?_⟩
  obtain ⟨a, b, c, d, e⟩ := h2 n hn
  exact ⟨a, b, c.keep fun i hi => hb.block _ (c.lt hi), d, e⟩

theorem upd_other (vals : Nat → Value) (k j : Nat) (v : Value) (h : j ≠ k) : upd vals k v j = vals j := if_neg h
theorem upd_at (vals : Nat → Value) (k : Nat) (v : Value) : upd vals k v k = v := if_pos rfl

/-- What 'set' asks and gives. -/
theorem Line.set {w : World} {g n b off m cap : Nat} {σ : Nat → Slot} {ys : List Int} (h : Line w g σ) (hn : n < 6) (hbg : b < g) (hm : ys.length = m) (hmm : m ≤ 1099511627776) (hy : At w b off ys) :
    Calls Try.prog 47 #[.pointer (some ⟨g, 3 * n, none⟩), .slice (some ⟨b, off, none⟩) m cap] w fun e w' => e = .returned (.tuple #[]) ∧ Line w' g (setS σ n ys) ∧ Below g w w' := by
  obtain ⟨vals, h1, h2⟩ := h
  have hgl := h1.lt
  obtain ⟨a0, b0, c0, d0, e0⟩ := h2 n hn
  refine (set_any g (3 * n) b off m cap vals (σ n).given (σ n).raw ys w (by omega) h1 a0 c0 (fun i hi => ⟨d0 i hi, by have := d0 i hi; omega⟩) hbg hm hmm hy).mono ?_
  rintro e w' ⟨rfl, v', q1, q2, q3, q4, q5, q6, q7, q8⟩
  have hv' : ∀ i, v'.ownBlock = some i → g < i := by
    intro i hi
    rcases q3 with h | ⟨j, h, hj⟩
    · rw [h] at hi; exact d0 i hi
    · rw [hi] at h; cases h; omega
  refine ⟨rfl, ⟨_, q1, fun k hk => ?_⟩, ⟨q5, q6, q7, q4, fun i hi => q8 i (by omega) (by omega) (fun e => by have := d0 i e; omega)⟩⟩
  by_cases hkn : k = n
  · subst hkn
    have x0 : upd (upd (upd vals (3 * k + 2) (vals (3 * k + 1))) (3 * k) v') (3 * k + 1) (.bool true) (3 * k) = v' := by rw [upd_other _ _ _ _ (by omega), upd_at]
    have x1 : upd (upd (upd vals (3 * k + 2) (vals (3 * k + 1))) (3 * k) v') (3 * k + 1) (.bool true) (3 * k + 1) = .bool true := by rw [upd_at]
    have x2 : upd (upd (upd vals (3 * k + 2) (vals (3 * k + 1))) (3 * k) v') (3 * k + 1) (.bool true) (3 * k + 2) = vals (3 * k + 1) := by rw [upd_other _ _ _ _ (by omega), upd_other _ _ _ _ (by omega), upd_at]
    have es : setS σ k ys k = ⟨ys, true, (σ k).given⟩ := if_pos rfl
    rw [x0, x1, x2, es]
    refine ⟨rfl, a0, q2, hv', ?_⟩
    intro m' hm' hne i hi
    rw [upd_other _ _ _ _ (by omega), upd_other _ _ _ _ (by omega), upd_other _ _ _ _ (by omega)]
    obtain ⟨a1, b1, c1, d1, e1⟩ := h2 m' hm'
    rcases q3 with h | ⟨j, h, hj⟩
    · rw [h] at hi; exact e0 m' hm' hne i hi
    · rw [hi] at h; cases h
      intro hh; have := c1.lt hh; omega
  · obtain ⟨a1, b1, c1, d1, e1⟩ := h2 k hk
    have x0 : upd (upd (upd vals (3 * n + 2) (vals (3 * n + 1))) (3 * n) v') (3 * n + 1) (.bool true) (3 * k) = vals (3 * k) := by rw [upd_other _ _ _ _ (by omega), upd_other _ _ _ _ (by omega), upd_other _ _ _ _ (by omega)]
    have x1 : upd (upd (upd vals (3 * n + 2) (vals (3 * n + 1))) (3 * n) v') (3 * n + 1) (.bool true) (3 * k + 1) = vals (3 * k + 1) := by rw [upd_other _ _ _ _ (by omega), upd_other _ _ _ _ (by omega), upd_other _ _ _ _ (by omega)]
    have x2 : upd (upd (upd vals (3 * n + 2) (vals (3 * n + 1))) (3 * n) v') (3 * n + 1) (.bool true) (3 * k + 2) = vals (3 * k + 2) := by rw [upd_other _ _ _ _ (by omega), upd_other _ _ _ _ (by omega), upd_other _ _ _ _ (by omega)]
    have es : setS σ n ys k = σ k := if_neg hkn
    rw [x0, x1, x2, es]
    refine ⟨a1, b1, c1.keep fun i hi => q8 i (c1.lt hi) (by have := d1 i hi; omega) (e1 n hn (fun e => hkn e.symm) i hi), d1, ?_⟩
    intro m' hm' hne i hi
    by_cases hmn : m' = n
    · subst hmn
      rw [upd_other _ _ _ _ (by omega), upd_at]
      rcases q3 with h | ⟨j, h, hj⟩
      · rw [h]; exact e1 m' hm' hne i hi
      · intro hh; rw [hh] at h; cases h; have := c1.lt hi; omega
    · rw [upd_other _ _ _ _ (by omega), upd_other _ _ _ _ (by omega), upd_other _ _ _ _ (by omega)]
      exact e1 m' hm' hne i hi

theorem At.left {w : World} {b off : Nat} {xs ys : List Int} (h : At w b off (xs ++ ys)) : At w b off xs := by
  intro j hj
  rw [h j (by simp; omega), List.getD_eq_getElem?_getD, List.getElem?_append_left hj, ← List.getD_eq_getElem?_getD]
theorem At.right {w : World} {b off : Nat} {xs ys : List Int} (h : At w b off (xs ++ ys)) : At w b (off + xs.length) ys := by
  intro j hj
  rw [Nat.add_assoc, h (xs.length + j) (by simp; omega), List.getD_eq_getElem?_getD, List.getElem?_append_right (by omega), Nat.add_sub_cancel_left, ← List.getD_eq_getElem?_getD]
theorem At.head {w : World} {b off : Nat} {c : Int} {ys : List Int} (h : At w b off (c :: ys)) : w.cell? ⟨b, off, none⟩ = some (.int .u8 c) := h 0 (by simp)
theorem At.tail {w : World} {b off : Nat} {c : Int} {ys : List Int} (h : At w b off (c :: ys)) : At w b (off + 1) ys := At.right (xs := [c]) h

end Go.Proofs.Qxb6000782a
