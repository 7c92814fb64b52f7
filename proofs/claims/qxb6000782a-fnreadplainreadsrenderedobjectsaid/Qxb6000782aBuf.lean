/- ROWS OF BYTES THAT THE CALL ITSELF MAKES AND APPENDS TO: what they hold, and in which block they lie (the same, or a new one). zzAppendWs. -/
import Derived.Test.Qxb6000782aClone
import Derived.Test.Qxb6000782aValue
namespace Go.Proofs.Qxb6000782a
open Go.RowKit
set_option linter.unusedVariables false
set_option linter.unusedSimpArgs false

/-- The slice value v is nil and owns nothing, or begins a block of the call's own whose first bytes are zs. -/
def Row (w : World) (v : Value) (zs : List Int) : Prop := w.ownsRow 0 5 1 v zs.length (zs.map (Value.int .u8))

/-- From (w, v) to (w', v'): of the old blocks at most v's own was written; v' lies where v lay, or in a new block. -/
structure Push (w : World) (v : Value) (w' : World) (v' : Value) : Prop where
  grown : w.grownBy w' v.ownBlock
  moved : v'.ownBlock = v.ownBlock ∨ ∃ b, v'.ownBlock = some b ∧ w.heap.size ≤ b

theorem Push.refl (w : World) (v : Value) : Push w v w v := ⟨⟨rfl, rfl, rfl, Nat.le_refl _, fun _ _ _ => rfl⟩, .inl rfl⟩

theorem Push.trans {w w1 w2 : World} {v v1 v2 : Value} (h : Push w v w1 v1) (k : Push w1 v1 w2 v2) : Push w v w2 v2 := by
  refine ⟨⟨k.grown.os.trans h.grown.os, k.grown.tape.trans h.grown.tape, k.grown.output.trans h.grown.output, Nat.le_trans h.grown.size k.grown.size, fun i hi hne => ?_⟩, ?_⟩
  · rw [k.grown.block i (Nat.lt_of_lt_of_le hi h.grown.size) ?_]
    · exact h.grown.block i hi hne
    · intro e
      rcases h.moved with h' | ⟨b, h', hb⟩
      · rw [h'] at e; exact hne e
      · rw [h'] at e; cases e; omega
  · rcases k.moved with k' | ⟨b, k', hb⟩
    · rw [k']; exact h.moved
    · exact .inr ⟨b, k', Nat.le_trans h.grown.size hb⟩

theorem Push.alloc {w w' : World} {v v' : Value} (o : Obj) (h : Push (w.alloc o) v w' v') : Push w v w' v' := by
  refine ⟨⟨h.grown.os, h.grown.tape, h.grown.output, by have := h.grown.size; simp at this; omega, fun i hi hne => ?_⟩, ?_⟩
  · rw [h.grown.block i (by simp; omega) hne, Below.heap_alloc _ _ _ hi]
  · rcases h.moved with h' | ⟨b, h', hb⟩
    · exact .inl h'
    · exact .inr ⟨b, h', by simp at hb; omega⟩

/-- Blocks that are older than all of it and not v's own. -/
theorem Push.below {w w' : World} {v v' : Value} (h : Push w v w' v') {B : Nat} (hB : B ≤ w.heap.size) (hv : ∀ b, v.ownBlock = some b → B ≤ b) : Below B w w' :=
  (Below.refl _ _).grown h.grown hB hv

theorem Row.alloc {w : World} {v : Value} {zs : List Int} (h : Row w v zs) (o : Obj) : Row (w.alloc o) v zs := World.ownsRow.alloc h o

theorem Row.len {w : World} {v : Value} {zs : List Int} (h : Row w v zs) : (v = .slice none 0 0 ∧ zs = []) ∨ ∃ g cap, v = .slice (some ⟨g, 0, none⟩) zs.length cap ∧ At w g 0 zs ∧ g < w.heap.size := by
  rcases h.2 with ⟨rfl, h0⟩ | ⟨g, cap, cur, rfl, _, hg, _⟩
  · exact .inl ⟨rfl, List.length_eq_zero_iff.1 h0⟩
  · refine .inr ⟨g, cap, rfl, ?_, lt_of_block hg⟩
    intro j hj
    rw [Nat.zero_add]
    have := World.ownsRow.cellAt h j (by omega)
    rw [this, List.getElem?_map, getD_some hj]
    rfl

/-- A row of zeros that has just been made, or any literal row. -/
theorem row_lit (w : World) (zs : List Int) (hm : zs.length ≤ maxLen) : Row (w.alloc (.cells (zs.map (Value.int .u8)).toArray 5)) (.slice (some ⟨w.heap.size, 0, none⟩) zs.length zs.length) zs := by
  have := World.ownsRow_lit (base := 0) (e := 5) (size := 1) w (zs.map (Value.int .u8)).toArray zs.length (Nat.zero_le _) hm (by simp)
  simpa [Row] using this

theorem run_append_mine (w : World) (ty : TypeId) (v : Value) (zs ys : List Int) (hown : Row w v zs) (a : Addr) (m c : Nat) (hm : ys.length = m) (hcell : ∀ j, j < ys.length → w.cell? (a.add j) = some (.int .u8 (ys.getD j 0))) (hb : zs.length + m ≤ 140737488355328) :
    ∃ v' w', (Builtin.append_ #[22, 22] ty #[v, .slice (some a) m c]).run Try.prog w = .ok v' w' ∧ Row w' v' (zs ++ ys) ∧ Push w v w' v' := by
  subst hm
  obtain ⟨i0, hi, hz0, hz1, hz2⟩ := info_parts Try.info5
  have hnews : ∀ j u, (ys.map (Value.int .u8))[j]? = some u → w.cell? (a.add j) = some u := by
    intro j u hu
    rw [List.getElem?_map] at hu
    rcases Nat.lt_or_ge j ys.length with hj | hj
    · rw [getD_some hj] at hu
      simp at hu
      rw [hcell j hj, ← hu]
      simp
    · rw [List.getElem?_eq_none hj] at hu; simp at hu
  have h1 : ∀ u ∈ ys.map (Value.int .u8), u.oneCell' = true := by
    intro u hu
    obtain ⟨y, _, rfl⟩ := List.mem_map.1 hu
    rfl
  have h63 : zs.length + ys.length ≤ maxLen := by unfold maxLen; omega
  obtain ⟨v', w', hr, ho, hg, hn⟩ := run_append_own (P := Try.prog) w 0 22 ty 5 i0 (.int .u8 0) 1 1 Try.underlying22 hi hz0 hz1 hz2 rfl (by decide) v zs.length (zs.map (Value.int .u8)) hown a ys.length c (ys.map (Value.int .u8)) (by simp) hnews h1 h63 (by omega) (Nat.zero_le _)
  refine ⟨v', w', hr, ?_, ⟨hg, ?_⟩⟩
  · unfold Row
    rw [List.length_append, List.map_append]
    exact ho
  · rcases hown.2 with ⟨rfl, h0⟩ | ⟨g, cap, cur, rfl, _, hgg, hnc, hcm, hcs, htake⟩
    · have hz : zs = [] := List.length_eq_zero_iff.1 h0
      subst hz
      obtain ⟨v2, w2, hr2, ho2, _, _⟩ := run_append_own (P := Try.prog) w w.heap.size 22 ty 5 i0 (.int .u8 0) 1 1 Try.underlying22 hi hz0 hz1 hz2 rfl (by decide) (.slice none 0 0) 0 [] (World.ownsRow_nil w _ 5 1) a ys.length c (ys.map (Value.int .u8)) (by simp) hnews h1 (by unfold maxLen; omega) (by simp at hb ⊢; omega) (Nat.le_refl _)
      rw [hr] at hr2
      cases hr2
      cases hvb : v'.ownBlock with
      | none => exact .inl rfl
      | some b => exact .inr ⟨b, rfl, (ho2.lt b hvb).1⟩
    · by_cases hroom : zs.length + ys.length ≤ cap
      · have hfit : zs.length * i0.size + (ys.map (Value.int .u8)).length ≤ cur.size := by rw [hz1]; simp; omega
        have hr2 := run_append_room (P := Try.prog) w 22 ty 5 i0 Try.underlying22 hi g zs.length cap cur hgg a ys.length c (ys.map (Value.int .u8)) (by rw [hz1]; simp) hnews h1 hroom hfit
        rw [hr] at hr2
        cases hr2
        exact .inl rfl
      · have holds : ∀ j u, (zs.map (Value.int .u8))[j]? = some u → w.cell? ((⟨g, 0, none⟩ : Addr).add j) = some u := World.ownsRow.cells hown (g := g) rfl
        have hr2 := run_append_grow (P := Try.prog) w 22 ty 5 i0 (.int .u8 0) Try.underlying22 hi hz0 ⟨g, 0, none⟩ zs.length cap (zs.map (Value.int .u8)) (by rw [hz1]; simp) holds a ys.length c (ys.map (Value.int .u8)) (by rw [hz1]; simp) hnews (by omega) (by unfold maxLen at h63; omega) (growslice_fits (by omega) (by rw [hz2]; omega))
        rw [hr] at hr2
        cases hr2
        exact .inr ⟨w.heap.size, rfl, Nat.le_refl _⟩

/-- THE LAW AT THE OPERATION. -/
theorem wpList_append_mine (w : World) {ops : Array Oper} {rest : List Oper} {o : Oper} {a : Act} {Q : Exit → Act → World → Prop} (hgd : o.guard = none) (s x : Operand)
    (ho : o.op = .call { callee := .builtin .append, args := #[s, x], argTypes := #[22, 22] })
    (v : Value) (zs ys : List Int) (hs : a.eval s = v) (hown : Row w v zs)
    (ad : Addr) (m c : Nat) (hx : a.eval x = .slice (some ad) m c) (hm : ys.length = m) (hcell : ∀ j, j < ys.length → w.cell? (ad.add j) = some (.int .u8 (ys.getD j 0))) (hb : zs.length + m ≤ 140737488355328)
    (h : ∀ v' w', Row w' v' (zs ++ ys) → Push w v w' v' → wpList Try.prog ops Q rest (a.put o.dst v') w') : wpList Try.prog ops Q (o :: rest) a w := by
  refine wpList_plain hgd fun K hK => ?_
  obtain ⟨v', w', hr, h2, h3⟩ := run_append_mine w o.type v zs ys hown ad m c hm hcell hb
  unfold Oper.wp execOp
  simp only [ho, resolve, invoke, builtin, Sem.run_bind, Sem.run_pure, Result.andThen_ok, List.map_toArray, List.map_cons, List.map_nil, hs, hx, hr]
  exact hK _ _ (h v' w' h2 h3)

end Go.Proofs.Qxb6000782a
