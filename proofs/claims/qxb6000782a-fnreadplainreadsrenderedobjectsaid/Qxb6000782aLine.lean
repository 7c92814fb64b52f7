/- THE EVENT LINE IN MEMORY, and the walks of 'set' and 'reset'. -/
import Derived.Test.Qxb6000782aSkip
namespace Go.Proofs.Qxb6000782a
open Go.RowKit
set_option linter.unusedVariables false
set_option linter.unusedSimpArgs false

/-- Block g holds the 18 cells of an event line. -/
def Blk (w : World) (g : Nat) (vals : Nat → Value) : Prop := ∃ cur, w.heap[g]? = some (.cells cur 51 (0, 0)) ∧ ∀ k, k < 18 → cur[k]? = some (vals k)

def upd (vals : Nat → Value) (k : Nat) (v : Value) : Nat → Value := fun j => if j = k then v else vals j

theorem Blk.cell {w : World} {g : Nat} {vals : Nat → Value} (h : Blk w g vals) (k : Nat) (hk : k < 18) : w.cell? ⟨g, k, none⟩ = some (vals k) := by
  obtain ⟨cur, h1, h2⟩ := h
  rw [cell_of_row w g k cur 51 (0, 0) h1, h2 k hk]

theorem Blk.frozen {w : World} {g : Nat} {vals : Nat → Value} (h : Blk w g vals) (k : Nat) : w.frozen? ⟨g, k, none⟩ = false := by
  obtain ⟨cur, h1, h2⟩ := h
  exact frozen_of_row w g k cur 51 h1

theorem Blk.lt {w : World} {g : Nat} {vals : Nat → Value} (h : Blk w g vals) : g < w.heap.size := by
  obtain ⟨cur, h1, h2⟩ := h
  exact lt_of_block h1

theorem Blk.keep {w w' : World} {g : Nat} {vals : Nat → Value} (h : Blk w g vals) (e : w'.heap[g]? = w.heap[g]?) : Blk w' g vals := by
  obtain ⟨cur, h1, h2⟩ := h
  exact ⟨cur, by rw [e, h1], h2⟩

theorem Blk.store {w : World} {g : Nat} {vals : Nat → Value} (h : Blk w g vals) (k : Nat) (v : Value) : Blk (w.setCell ⟨g, k, none⟩ v) g (upd vals k v) := by
  obtain ⟨cur, h1, h2⟩ := h
  refine ⟨_, heap_setCell_same w g k cur 51 v h1, fun j hj => ?_⟩
  have hlt : j < cur.size := by
    obtain ⟨h, _⟩ := Array.getElem?_eq_some_iff.1 (h2 j hj)
    exact h
  unfold upd
  rw [Array.getElem?_setIfInBounds]
  by_cases e : k = j
  · subst e; simp [hlt]
  · rw [if_neg e, if_neg (fun h => e h.symm)]; exact h2 j hj

theorem Row.isSlice {w : World} {v : Value} {zs : List Int} (h : Row w v zs) : ∃ a n c, v = .slice a n c := by
  rcases h.len with ⟨h, _⟩ | ⟨q, c, h, _⟩
  · exact ⟨_, _, _, h⟩
  · exact ⟨_, _, _, h⟩

/-- What 'set' leaves: v' holds the bytes ys; 'given' moved to 'twice', 'given' set. -/
def SetPost (w : World) (g o : Nat) (vals : Nat → Value) (ys : List Int) (w' : World) : Prop :=
  ∃ v', Blk w' g (upd (upd (upd vals (o + 2) (vals (o + 1))) o v') (o + 1) (.bool true)) ∧ Row w' v' ys ∧
    (v'.ownBlock = (vals o).ownBlock ∨ ∃ b, v'.ownBlock = some b ∧ w.heap.size ≤ b) ∧ w.heap.size ≤ w'.heap.size ∧ w'.os = w.os ∧ w'.tape = w.tape ∧ w'.output = w.output ∧
    ∀ i, i < w.heap.size → i ≠ g → (vals o).ownBlock ≠ some i → w'.heap[i]? = w.heap[i]?

set_option maxHeartbeats 400000 in
theorem set_any (g o b off m cap : Nat) (vals : Nat → Value) (gv : Bool) (zs ys : List Int) (w : World) (ho : o + 2 < 18) (hB : Blk w g vals) (hg : vals (o + 1) = .bool gv) (hr : Row w (vals o) zs) (hown : ∀ i, (vals o).ownBlock = some i → g < i ∧ b < i)
    (hbg : b < g) (hm : ys.length = m) (hmm : m ≤ 1099511627776) (hy : At w b off ys) :
    Calls Try.prog 47 #[.pointer (some ⟨g, o, none⟩), .slice (some ⟨b, off, none⟩) m cap] w fun e w' => e = .returned (.tuple #[]) ∧ SetPost w g o vals ys w' := by
  obtain ⟨W, hW⟩ : ∃ W, W = w.setCell ⟨g, o + 2, none⟩ (.bool gv) := ⟨_, rfl⟩
  have c0 := hB.cell o (by omega)
  have c1 := hB.cell (o + 1) (by omega)
  rw [hg] at c1
  have c2 := hB.cell (o + 2) (by omega)
  have f0 := hB.frozen o
  have f1 := hB.frozen (o + 1)
  have f2 := hB.frozen (o + 2)
  have HBW : Hid (Blk W g (upd vals (o + 2) (vals (o + 1)))) := by show Blk _ _ _; rw [hW, hg]; exact hB.store _ _
  have HX : Hid (vals (o + 1) = .bool gv) := hg
  have HRW : Hid (Row W (vals o) zs) := by
    show Row _ _ _
    refine hr.keep fun i hi => ?_
    rw [hW]; exact heap_setCell_other _ _ _ _ (by have := hown i hi; simp; omega)
  have HYW : Hid (At W b off ys) := by
    show At _ _ _ _
    refine hy.keep ?_
    rw [hW]; exact heap_setCell_other _ _ _ _ (by simp; omega)
  have HS : Hid (W.heap.size = w.heap.size ∧ W.os = w.os ∧ W.tape = w.tape ∧ W.output = w.output ∧ ∀ i, i ≠ g → W.heap[i]? = w.heap[i]?) := by
    rw [hW]
    exact ⟨by simp [World.setCell], rfl, rfl, rfl, fun i hi => heap_setCell_other _ _ _ _ (by simpa using hi)⟩
  have HM : Hid (ys.length = m) := hm
  have HOWN : Hid (∀ i, (vals o).ownBlock = some i → g < i ∧ b < i) := hown
  obtain ⟨v0, hv0, hrow0, hown0⟩ : ∃ v0, v0 = (match vals o with | .slice a _ c => Value.slice a 0 c | _ => .slice none 0 0) ∧ Row W v0 [] ∧ v0.ownBlock = (vals o).ownBlock := by
    refine ⟨_, rfl, ?_, ?_⟩
    · have h := HRW.out
      rcases h.2 with ⟨e, _⟩ | ⟨q, c, cur, e, h1, h2, h3, h4, h5, h6⟩
      · rw [e]; exact World.ownsRow_nil W _ 5 1
      · rw [e]; exact ⟨rfl, .inr ⟨q, c, cur, rfl, h1, h2, Nat.zero_le _, h4, h5, by simp⟩⟩
    · have h := HRW.out
      rcases h.2 with ⟨e, _⟩ | ⟨q, c, cur, e, _⟩
      · rw [e]
      · rw [e]; rfl
  have HV : Hid (Row W v0 [] ∧ v0.ownBlock = (vals o).ownBlock) := ⟨hrow0, hown0⟩
  have HG : Hid (g < W.heap.size ∧ (∀ i, v0.ownBlock = some i → i ≠ g)) := ⟨HBW.out.lt, fun i hi => by rw [hown0] at hi; have := hown i hi; omega⟩
  have hcase : (vals o = .slice none 0 0) ∨ ∃ q c, vals o = .slice (some ⟨q, 0, none⟩) zs.length c := by
    rcases hr.len with ⟨h, _⟩ | ⟨q, c, h, _⟩
    · exact .inl h
    · exact .inr ⟨q, c, h⟩
  have hfin : Hid (∀ (v' : Value) (w1 : World), Row w1 v' ys → Push W v0 w1 v' → SetPost w g o vals ys ((w1.setCell ⟨g, o, none⟩ v').setCell ⟨g, o + 1, none⟩ (.bool true))) := by
    intro v' w1 hrow hpush
    have hb1 : Blk w1 g (upd vals (o + 2) (vals (o + 1))) := HBW.out.keep (hpush.grown.block g HBW.out.lt (fun e => HG.out.2 g e.symm rfl))
    obtain ⟨s1, s2, s3, s4, s5⟩ := HS.out
    have hv'g : ∀ i, v'.ownBlock = some i → i ≠ g := by
      intro i hi
      rcases hpush.moved with h | ⟨q, h, hq⟩
      · rw [hi] at h; exact HG.out.2 i h.symm
      · rw [hi] at h; cases h; have := HG.out.1; omega
    refine ⟨v', (hb1.store o v').store (o + 1) (.bool true), hrow.keep fun i hi => ?_, ?_, ?_, ?_, ?_, ?_, ?_⟩
    · rw [heap_setCell_other _ _ _ _ (hv'g i hi), heap_setCell_other _ _ _ _ (hv'g i hi)]
    · rcases hpush.moved with h | ⟨q, h, hq⟩
      · exact .inl (h.trans HV.out.2)
      · exact .inr ⟨q, h, by omega⟩
    · have := hpush.grown.size; simp [World.setCell]; omega
    · exact hpush.grown.os.trans s2
    · exact hpush.grown.tape.trans s3
    · exact hpush.grown.output.trans s4
    · intro i hi hig hio
      rw [heap_setCell_other _ _ _ _ hig, heap_setCell_other _ _ _ _ hig, hpush.grown.block i (by omega) (by rw [HV.out.2]; exact fun e => hio e.symm), s5 i hig]
  have hcells : Hid (∀ (v' : Value) (w1 : World), Push W v0 w1 v' → (∃ x, w1.cell? ⟨g, o, none⟩ = some x) ∧ (∃ x, w1.cell? ⟨g, o + 1, none⟩ = some x) ∧ w1.frozen? ⟨g, o, none⟩ = false ∧ w1.frozen? ⟨g, o + 1, none⟩ = false) := by
    intro v' w1 hpush
    have hb1 : Blk w1 g (upd vals (o + 2) (vals (o + 1))) := HBW.out.keep (hpush.grown.block g HBW.out.lt (fun e => HG.out.2 g e.symm rfl))
    exact ⟨⟨_, hb1.cell o (by omega)⟩, ⟨_, hb1.cell (o + 1) (by omega)⟩, hb1.frozen _, hb1.frozen _⟩
  clear hrow0 hown0 hB hr hown hy hm
  rcases hcase with e | ⟨q, c, e⟩
  · rw [e] at hv0 c0
    simp only at hv0
    subst hv0
    clear e hg
    go_enter Try.func47, Try.ntmps47
    go_wp2_with (at_builtin
                 rw [← hW]
                 refine wpList_append_mine _ rfl _ _ rfl (.slice none 0 0) [] ys rfl HV.out.1 ⟨b, off, none⟩ m cap rfl HM.out HYW.out.cells (by simp; omega) ?_
                 intro v' w1 hrow hpush
                 obtain ⟨a', n', c', rfl⟩ := Row.isSlice hrow
                 have HF : Hid _ := hfin.out _ w1 hrow hpush
                 obtain ⟨⟨x0, d0⟩, ⟨x1, d1⟩, d2, d3⟩ := hcells.out _ w1 hpush
                 clear hrow hpush)
    exact bodyPost_end (v := .tuple #[]) (by simp [results, Try.f47, go_sem]) rfl ⟨rfl, HF.out⟩
  · rw [e] at hv0 c0
    simp only at hv0
    subst hv0
    clear e hg
    go_enter Try.func47, Try.ntmps47
    go_wp2_with (at_builtin
                 rw [← hW]
                 refine wpList_append_mine _ rfl _ _ rfl (.slice (some ⟨q, 0, none⟩) 0 c) [] ys rfl HV.out.1 ⟨b, off, none⟩ m cap rfl HM.out HYW.out.cells (by simp; omega) ?_
                 intro v' w1 hrow hpush
                 obtain ⟨a', n', c', rfl⟩ := Row.isSlice hrow
                 have HF : Hid _ := hfin.out _ w1 hrow hpush
                 obtain ⟨⟨x0, d0⟩, ⟨x1, d1⟩, d2, d3⟩ := hcells.out _ w1 hpush
                 clear hrow hpush)
    exact bodyPost_end (v := .tuple #[]) (by simp [results, Try.f47, go_sem]) rfl ⟨rfl, HF.out⟩

end Go.Proofs.Qxb6000782a
