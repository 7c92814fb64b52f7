/- WHAT THE LAW's LOOP KEEPS IN MEMORY: the text, the counts, the last tokens. -/
import Derived.Test.Qxb6000782aLineOf
import Derived.Test.Qxb6000782aObj
namespace Go.Proofs.Qxb6000782a
open Go.RowKit
set_option linter.unusedVariables false
set_option linter.unusedSimpArgs false

/-- Bytes in a block that is not the text's. -/
def Side (w : World) (tv : Value) (q : Nat) (zs : List Int) : Prop := At w q 0 zs ∧ q < w.heap.size ∧ tv.ownBlock ≠ some q

theorem push_block {w w' : World} {v v' : Value} (p : Push w v w' v') {q : Nat} (hq : q < w.heap.size) (hv : v.ownBlock ≠ some q) : w'.heap[q]? = w.heap[q]? ∧ v'.ownBlock ≠ some q := by
  refine ⟨p.grown.block q hq (fun e => hv e.symm), ?_⟩
  rcases p.moved with h | ⟨b, h, hb⟩
  · rw [h]; exact hv
  · rw [h]; intro e; cases e; omega

theorem Side.push {w w' : World} {v v' : Value} {q : Nat} {zs : List Int} (h : Side w v q zs) (p : Push w v w' v') : Side w' v' q zs := by
  obtain ⟨h1, h2, h3⟩ := h
  obtain ⟨e, hv⟩ := push_block p h2 h3
  exact ⟨h1.keep e, Nat.lt_of_lt_of_le h2 p.grown.size, hv⟩

theorem Side.later {w w' : World} {v : Value} {q : Nat} {zs : List Int} (h : Side w v q zs) (b : Below w.heap.size w w') : Side w' v q zs :=
  ⟨h.1.keep (b.block q h.2.1), Nat.lt_of_lt_of_le h.2.1 b.size, h.2.2⟩

structure LI (w4 : World) (T : Nat) (σ : Nat → Slot) (j : Nat) (w : World) (tv : Value) (zs : List Int) : Prop where
  below : Below T w4 w
  row : Row w tv zs
  blk : ∃ b, tv.ownBlock = some b ∧ T + 2 ≤ b
  mem : ∃ (c : Nat → Nat) (la : Nat → Option Addr) (ln lc : Nat → Nat), Ob 38 6 w T (fun n => .int .i64 (c n : Int)) ∧ Ob 39 6 w (T + 1) (fun n => .slice (la n) (ln n) (lc n)) ∧
    ∀ n, n < 6 → c n ≤ j ∧ (σ n).given = decide (0 < c n) ∧ (σ n).twice = decide (2 ≤ c n) ∧ (0 < c n → ln n = (σ n).raw.length ∧ ∃ q, la n = some ⟨q, 0, none⟩ ∧ T + 2 ≤ q ∧ Side w tv q (σ n).raw)

theorem LI.push {w4 : World} {T : Nat} {σ : Nat → Slot} {j : Nat} {w w' : World} {tv tv' : Value} {zs zs' : List Int} (h : LI w4 T σ j w tv zs) (p : Push w tv w' tv') (hr : Row w' tv' zs') : LI w4 T σ j w' tv' zs' := by
  obtain ⟨b, hb, hb2⟩ := h.blk
  obtain ⟨c, la, ln, lc, o1, o2, hm⟩ := h.mem
  have l2 := o2.lt
  have hbt := h.row.lt hb
  have e1 := push_block (q := T) p (by omega) (by rw [hb]; intro e; cases e; omega)
  have e2 := push_block (q := T + 1) p l2 (by rw [hb]; intro e; cases e; omega)
  refine ⟨h.below.trans (p.below (by omega) (fun i hi => by rw [hb] at hi; cases hi; omega)), hr, ?_, c, la, ln, lc, o1.keep e1.1, o2.keep e2.1, fun n hn => ?_⟩
  · rcases p.moved with h' | ⟨i, h', hi⟩
    · exact ⟨b, by rw [h', hb], hb2⟩
    · exact ⟨i, h', by omega⟩
  · obtain ⟨m1, m2, m3, m4⟩ := hm n hn
    refine ⟨m1, m2, m3, fun hc => ?_⟩
    obtain ⟨q1, q, q2, q3, q4⟩ := m4 hc
    exact ⟨q1, q, q2, q3, q4.push p⟩

theorem LI.later {w4 : World} {T : Nat} {σ : Nat → Slot} {j : Nat} {w w' : World} {tv : Value} {zs : List Int} (h : LI w4 T σ j w tv zs) (b : Below w.heap.size w w') : LI w4 T σ j w' tv zs := by
  obtain ⟨c, la, ln, lc, o1, o2, hm⟩ := h.mem
  have l2 := o2.lt
  refine ⟨h.below.trans (b.mono (by omega)), h.row.keep fun i hi => b.block i (h.row.lt hi), h.blk, c, la, ln, lc, o1.keep (b.block _ (by omega)), o2.keep (b.block _ l2), fun n hn => ?_⟩
  obtain ⟨m1, m2, m3, m4⟩ := hm n hn
  refine ⟨m1, m2, m3, fun hc => ?_⟩
  obtain ⟨q1, q, q2, q3, q4⟩ := m4 hc
  exact ⟨q1, q, q2, q3, q4.later b⟩

theorem LI.step {w4 : World} {T : Nat} {σ : Nat → Slot} {j : Nat} {w : World} {tv : Value} {zs : List Int} (h : LI w4 T σ j w tv zs) : LI w4 T σ (j + 1) w tv zs := by
  obtain ⟨c, la, ln, lc, o1, o2, hm⟩ := h.mem
  refine ⟨h.below, h.row, h.blk, c, la, ln, lc, o1, o2, fun n hn => ?_⟩
  obtain ⟨m1, m2, m3, m4⟩ := hm n hn
  exact ⟨by omega, m2, m3, m4⟩

theorem Side.store {w : World} {v : Value} {q : Nat} {zs : List Int} (h : Side w v q zs) {a : Addr} (ha : q ≠ a.block) (x : Value) : Side (w.setCell a x) v q zs :=
  ⟨h.1.keep (heap_setCell_other _ _ _ _ ha), by have := h.2.1; simpa [World.setCell] using this, h.2.2⟩

/-- A key that is the name n: its count goes up, its token is kept. -/
theorem LI.hit {w4 : World} {T : Nat} {σ : Nat → Slot} {j n : Nat} {w : World} {tv : Value} {zs tok : List Int} {q cap : Nat} {d : Int} (h : LI w4 T σ j w tv zs) (hn : n < 6) (hq : Side w tv q tok) (hqT : T + 2 ≤ q) (hd : w.cell? ⟨T, n, none⟩ = some (.int .i64 d)) :
    LI w4 T (setS σ n tok) (j + 1) ((w.setCell ⟨T, n, none⟩ (.int .i64 (d + 1))).setCell ⟨T + 1, n, none⟩ (.slice (some ⟨q, 0, none⟩) tok.length cap)) tv zs := by
  obtain ⟨c, la, ln, lc, o1, o2, hm⟩ := h.mem
  obtain ⟨b, hb, hb2⟩ := h.blk
  have hdc : d = (c n : Int) := by have := o1.cell n hn; rw [hd] at this; simpa using this
  subst hdc
  refine ⟨(h.below.setCell (Nat.le_refl _) _).setCell (Nat.le_succ _) _, h.row.keep fun i hi => ?_, h.blk, fun m => if m = n then c n + 1 else c m, fun m => if m = n then some ⟨q, 0, none⟩ else la m, fun m => if m = n then tok.length else ln m, fun m => if m = n then cap else lc m, ?_, ?_, fun m hm' => ?_⟩
  · rw [hb] at hi; cases hi
    rw [heap_setCell_other _ _ _ _ (by simp; omega), heap_setCell_other _ _ _ _ (by simp; omega)]
  · have := (o1.store n (.int .i64 ((c n : Int) + 1))).keep (w' := (w.setCell ⟨T, n, none⟩ (.int .i64 ((c n : Int) + 1))).setCell ⟨T + 1, n, none⟩ (.slice (some ⟨q, 0, none⟩) tok.length cap)) (heap_setCell_other _ _ _ _ (by simp))
    refine this.congr fun k hk => ?_
    unfold upd
    by_cases e : k = n
    · simp [e]
    · simp [e]
  · have := (o2.keep (w' := w.setCell ⟨T, n, none⟩ (.int .i64 ((c n : Int) + 1))) (heap_setCell_other _ _ _ _ (by simp))).store n (.slice (some ⟨q, 0, none⟩) tok.length cap)
    refine this.congr fun k hk => ?_
    unfold upd
    by_cases e : k = n
    · simp [e]
    · simp [e]
  · obtain ⟨m1, m2, m3, m4⟩ := hm m hm'
    by_cases e : m = n
    · subst e
      have es : setS σ m tok m = ⟨tok, true, (σ m).given⟩ := if_pos rfl
      simp only [es, if_true]
      refine ⟨by omega, by simp, ?_, fun _ => ⟨trivial, q, rfl, hqT, (hq.store (by simp; omega) _).store (by simp; omega) _⟩⟩
      rw [m2]
      rcases Nat.eq_zero_or_pos (c m) with h0 | h0
      · simp [h0]
      · simp [h0]; omega
    · have es : setS σ n tok m = σ m := if_neg e
      simp only [es, if_neg e]
      refine ⟨by omega, m2, m3, fun hc => ?_⟩
      obtain ⟨q1, q', q2, q3, q4⟩ := m4 hc
      exact ⟨q1, q', q2, q3, (q4.store (by simp; omega) _).store (by simp; omega) _⟩

end Go.Proofs.Qxb6000782a
