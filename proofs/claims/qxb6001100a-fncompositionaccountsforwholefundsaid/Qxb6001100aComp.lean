/- THE WALK OF 'compositionOf': whatever the breach, the composition accounts for the whole fund. -/
import Derived.Test.Qxb6001100aMis
namespace Go.Proofs.Qxb6001100a
open Go.RowKit
set_option linter.unusedVariables false
set_option linter.unusedSimpArgs false

abbrev kC : ByteArray := ⟨#[99, 114, 101, 100, 105, 116]⟩
abbrev kB : ByteArray := ⟨#[97, 98, 115]⟩
abbrev kS : ByteArray := ⟨#[115, 104, 111, 114, 116, 95, 103, 111, 118, 101, 114, 110, 109, 101, 110, 116]⟩
abbrev kL : ByteArray := ⟨#[108, 111, 110, 103, 95, 103, 111, 118, 101, 114, 110, 109, 101, 110, 116]⟩
abbrev kP : ByteArray := ⟨#[112, 111, 108, 105, 99, 121, 95, 98, 97, 110, 107]⟩

/-- The five buckets, as the map holds them. -/
abbrev five (a b c d e : Value) : Array MapEntry := #[⟨.string kC, a, 0⟩, ⟨.string kB, b, 1⟩, ⟨.string kS, c, 2⟩, ⟨.string kL, d, 3⟩, ⟨.string kP, e, 4⟩]

section
variable (X : World) (r : Nat) (hr : r = X.heap.size)

theorem bput1 (hr : r = X.heap.size) (v : Value) : (Instr.mapUpdate 56 (.map (some r)) (.string kC) v).run Try.prog (X.alloc (.map #[] 0)) = .ok () (X.alloc (.map #[⟨.string kC, v, 0⟩] 1)) := by
  subst hr
  rw [run_store_new Try.underlying56 Try.underlying60 _ _ _ _ (heap_alloc_new X _) kC v (by rfl), set_last]
  rfl
theorem bput2 (hr : r = X.heap.size) (v a : Value) : (Instr.mapUpdate 56 (.map (some r)) (.string kB) v).run Try.prog (X.alloc (.map #[⟨.string kC, a, 0⟩] 1)) = .ok () (X.alloc (.map #[⟨.string kC, a, 0⟩, ⟨.string kB, v, 1⟩] 2)) := by
  subst hr
  rw [run_store_new Try.underlying56 Try.underlying60 _ _ _ _ (heap_alloc_new X _) kB v (by rfl), set_last]
  rfl
theorem bput3 (hr : r = X.heap.size) (v a b : Value) : (Instr.mapUpdate 56 (.map (some r)) (.string kS) v).run Try.prog (X.alloc (.map #[⟨.string kC, a, 0⟩, ⟨.string kB, b, 1⟩] 2)) = .ok () (X.alloc (.map #[⟨.string kC, a, 0⟩, ⟨.string kB, b, 1⟩, ⟨.string kS, v, 2⟩] 3)) := by
  subst hr
  rw [run_store_new Try.underlying56 Try.underlying60 _ _ _ _ (heap_alloc_new X _) kS v (by rfl), set_last]
  rfl
theorem bput4 (hr : r = X.heap.size) (v a b c : Value) : (Instr.mapUpdate 56 (.map (some r)) (.string kL) v).run Try.prog (X.alloc (.map #[⟨.string kC, a, 0⟩, ⟨.string kB, b, 1⟩, ⟨.string kS, c, 2⟩] 3)) = .ok () (X.alloc (.map #[⟨.string kC, a, 0⟩, ⟨.string kB, b, 1⟩, ⟨.string kS, c, 2⟩, ⟨.string kL, v, 3⟩] 4)) := by
  subst hr
  rw [run_store_new Try.underlying56 Try.underlying60 _ _ _ _ (heap_alloc_new X _) kL v (by rfl), set_last]
  rfl
theorem bput5 (hr : r = X.heap.size) (v a b c d : Value) : (Instr.mapUpdate 56 (.map (some r)) (.string kP) v).run Try.prog (X.alloc (.map #[⟨.string kC, a, 0⟩, ⟨.string kB, b, 1⟩, ⟨.string kS, c, 2⟩, ⟨.string kL, d, 3⟩] 4)) = .ok () (X.alloc (.map (five a b c d v) 5)) := by
  subst hr
  rw [run_store_new Try.underlying56 Try.underlying60 _ _ _ _ (heap_alloc_new X _) kP v (by rfl), set_last]
  rfl
end

theorem heap_mid (X : World) (o p : Obj) : (((X.alloc o).alloc p).drew).heap[X.heap.size]? = some o := by
  show ((X.heap.push o).push p)[X.heap.size]? = some o
  rw [Array.getElem?_push, if_neg (by simp), Array.getElem?_push, if_pos rfl]

theorem set_mid (X : World) (o p o' : Obj) : ({ ((X.alloc o).alloc p).drew with heap := (((X.alloc o).alloc p).drew).heap.setIfInBounds X.heap.size o' } : World) = ((X.alloc o').alloc p).drew := by
  show ({ ((X.alloc o).alloc p).drew with heap := ((X.heap.push o).push p).setIfInBounds X.heap.size o' } : World) = { ((X.alloc o).alloc p).drew with heap := (X.heap.push o').push p }
  refine congrArg (fun h => ({ ((X.alloc o).alloc p).drew with heap := h } : World)) ?_
  apply Array.ext_getElem?
  intro i
  simp only [Array.getElem?_setIfInBounds, Array.getElem?_push, Array.size_push]
  by_cases h1 : i = X.heap.size
  · subst h1
    have : X.heap.size < X.heap.size + 1 + 1 := by omega
    simp [this]
  · rw [if_neg (fun e => h1 e.symm)]
    split <;> simp_all

section
variable (X : World) (r : Nat)
theorem bset1 (hr : r = X.heap.size) (p : Obj) (v a b c d e : Value) : (Instr.mapUpdate 56 (.map (some r)) (.string kC) v).run Try.prog ((X.alloc (.map (five a b c d e) 5)).alloc p).drew = .ok () ((X.alloc (.map (five v b c d e) 5)).alloc p).drew := by
  subst hr
  rw [run_store_old Try.underlying56 Try.underlying60 _ _ _ _ (heap_mid X _ p) kC v a 0 0 (by rfl) (by rfl), set_mid]
  rfl
theorem bset2 (hr : r = X.heap.size) (p : Obj) (v a b c d e : Value) : (Instr.mapUpdate 56 (.map (some r)) (.string kB) v).run Try.prog ((X.alloc (.map (five a b c d e) 5)).alloc p).drew = .ok () ((X.alloc (.map (five a v c d e) 5)).alloc p).drew := by
  subst hr
  rw [run_store_old Try.underlying56 Try.underlying60 _ _ _ _ (heap_mid X _ p) kB v b 1 1 (by rfl) (by rfl), set_mid]
  rfl
theorem bset3 (hr : r = X.heap.size) (p : Obj) (v a b c d e : Value) : (Instr.mapUpdate 56 (.map (some r)) (.string kS) v).run Try.prog ((X.alloc (.map (five a b c d e) 5)).alloc p).drew = .ok () ((X.alloc (.map (five a b v d e) 5)).alloc p).drew := by
  subst hr
  rw [run_store_old Try.underlying56 Try.underlying60 _ _ _ _ (heap_mid X _ p) kS v c 2 2 (by rfl) (by rfl), set_mid]
  rfl
theorem bset4 (hr : r = X.heap.size) (p : Obj) (v a b c d e : Value) : (Instr.mapUpdate 56 (.map (some r)) (.string kL) v).run Try.prog ((X.alloc (.map (five a b c d e) 5)).alloc p).drew = .ok () ((X.alloc (.map (five a b c v e) 5)).alloc p).drew := by
  subst hr
  rw [run_store_old Try.underlying56 Try.underlying60 _ _ _ _ (heap_mid X _ p) kL v d 3 3 (by rfl) (by rfl), set_mid]
  rfl
theorem bset5 (hr : r = X.heap.size) (p : Obj) (v a b c d e : Value) : (Instr.mapUpdate 56 (.map (some r)) (.string kP) v).run Try.prog ((X.alloc (.map (five a b c d e) 5)).alloc p).drew = .ok () ((X.alloc (.map (five a b c d v) 5)).alloc p).drew := by
  subst hr
  rw [run_store_old Try.underlying56 Try.underlying60 _ _ _ _ (heap_mid X _ p) kP v e 4 4 (by rfl) (by rfl), set_mid]
  rfl
end

/-- The composition accounts for the whole fund. -/
def Good (c a sg lg pb dep res repo restr : Int) : Prop :=
  (0 ≤ c ∧ c ≤ 10000) ∧ (0 ≤ a ∧ a ≤ 10000) ∧ (0 ≤ sg ∧ sg ≤ 10000) ∧ (0 ≤ lg ∧ lg ≤ 10000) ∧ (0 ≤ pb ∧ pb ≤ 10000) ∧ (0 ≤ dep ∧ dep ≤ 10000) ∧ (0 ≤ res ∧ res ≤ 10000) ∧ (0 ≤ repo ∧ repo ≤ 10000) ∧ (0 ≤ restr ∧ restr ≤ 1000) ∧
    c + a + sg + lg + pb + dep + res - repo = 10000

abbrev I (n : Int) : Value := .int .i64 n

def CompPost (w : World) (e : Ending) (w' : World) : Prop :=
  ∃ c a sg lg pb dep res repo restr : Int, Good c a sg lg pb dep res repo restr ∧ e = .returned (.agg #[.map (some (w.heap.size + 1)), I dep, I res, I repo, I restr]) ∧
    w'.heap[w.heap.size + 1]? = some (.map (five (I c) (I a) (I sg) (I lg) (I pb)) 5) ∧ Grown w w'

theorem heap_mid' (w : World) (R o p : Obj) : ((w.alloc R).alloc o).alloc p |>.heap[w.heap.size + 1]? = some o := by
  show (((w.heap.push R).push o).push p)[w.heap.size + 1]? = some o
  rw [Array.getElem?_push, if_neg (by simp), Array.getElem?_push, if_pos (by simp)]

theorem grown_comp (w : World) (R C : Array Value) (es : Array MapEntry) (n : Nat) : Grown w (((w.alloc (.cells R 58)).alloc (.map es n)).alloc (.cells C 58)) :=
  (((Grown.refl w).alloc R 58).allocMap es n).alloc C 58

set_option maxHeartbeats 400000 in
theorem compositionOf_1 (s : ByteArray) (w : World) (h1 : (s.toList == [99, 114, 101, 100, 105, 116, 45, 98, 111, 110, 100, 115]) = true) :
    Calls Try.prog 27 #[.string s] w (CompPost w) := by
  have hmm := @run_makeMap Try.prog
  have p1 : ∀ R v, _ := fun R v => bput1 (w.alloc R) (w.heap.size + 1) (by simp) v
  have p2 : ∀ R v a, _ := fun R v a => bput2 (w.alloc R) (w.heap.size + 1) (by simp) v a
  have p3 : ∀ R v a b, _ := fun R v a b => bput3 (w.alloc R) (w.heap.size + 1) (by simp) v a b
  have p4 : ∀ R v a b c, _ := fun R v a b c => bput4 (w.alloc R) (w.heap.size + 1) (by simp) v a b c
  have p5 : ∀ R v a b c d, _ := fun R v a b c d => bput5 (w.alloc R) (w.heap.size + 1) (by simp) v a b c d
  have s1 : ∀ R p v a b c d e, _ := fun R p v a b c d e => bset1 (w.alloc R) (w.heap.size + 1) (by simp) p v a b c d e
  have s5 : ∀ R p v a b c d e, _ := fun R p v a b c d e => bset5 (w.alloc R) (w.heap.size + 1) (by simp) p v a b c d e
  go_enter Try.func27, Try.ntmps27
  go_wp2
  go_region
  go_wp2
  refine bodyPost_ret (v := .agg #[.map (some (w.heap.size + 1)), I 400, I 100, I 1000, I 60]) (by simp [results, Try.results27, go_sem]) rfl ⟨6000, 1000, 450, 450, 2600, 400, 100, 1000, 60, by unfold Good; omega, rfl, ?_, ?_⟩
  · exact heap_mid' _ _ _ _
  · exact Grown.drew (grown_comp _ _ _ _ _)

set_option maxHeartbeats 400000 in
theorem compositionOf_2 (s : ByteArray) (w : World) (h1 : (s.toList == [99, 114, 101, 100, 105, 116, 45, 98, 111, 110, 100, 115]) = false) (h2 : (s.toList == [99, 97, 115, 104, 45, 97, 110, 100, 45, 115, 104, 111, 114, 116, 45, 103, 111, 118, 101, 114, 110, 109, 101, 110, 116, 45, 98, 111, 110, 100, 115]) = true) :
    Calls Try.prog 27 #[.string s] w (CompPost w) := by
  have hmm := @run_makeMap Try.prog
  have p1 : ∀ R v, _ := fun R v => bput1 (w.alloc R) (w.heap.size + 1) (by simp) v
  have p2 : ∀ R v a, _ := fun R v a => bput2 (w.alloc R) (w.heap.size + 1) (by simp) v a
  have p3 : ∀ R v a b, _ := fun R v a b => bput3 (w.alloc R) (w.heap.size + 1) (by simp) v a b
  have p4 : ∀ R v a b c, _ := fun R v a b c => bput4 (w.alloc R) (w.heap.size + 1) (by simp) v a b c
  have p5 : ∀ R v a b c d, _ := fun R v a b c d => bput5 (w.alloc R) (w.heap.size + 1) (by simp) v a b c d
  have s3 : ∀ R p v a b c d e, _ := fun R p v a b c d e => bset3 (w.alloc R) (w.heap.size + 1) (by simp) p v a b c d e
  have s4 : ∀ R p v a b c d e, _ := fun R p v a b c d e => bset4 (w.alloc R) (w.heap.size + 1) (by simp) p v a b c d e
  go_enter Try.func27, Try.ntmps27
  go_wp2
  go_region
  go_wp2
  refine bodyPost_ret (v := .agg #[.map (some (w.heap.size + 1)), I 100, I 400, I 1000, I 60]) (by simp [results, Try.results27, go_sem]) rfl ⟨7800, 1000, 100, 800, 800, 100, 400, 1000, 60, by unfold Good; omega, rfl, ?_, ?_⟩
  · exact heap_mid' _ _ _ _
  · exact Grown.drew (grown_comp _ _ _ _ _)

set_option maxHeartbeats 400000 in
theorem compositionOf_3 (s : ByteArray) (w : World) (h1 : (s.toList == [99, 114, 101, 100, 105, 116, 45, 98, 111, 110, 100, 115]) = false) (h2 : (s.toList == [99, 97, 115, 104, 45, 97, 110, 100, 45, 115, 104, 111, 114, 116, 45, 103, 111, 118, 101, 114, 110, 109, 101, 110, 116, 45, 98, 111, 110, 100, 115]) = false) (h3 : (s.toList == [97, 98, 115, 45, 111, 110, 101, 45, 111, 114, 105, 103, 105, 110, 97, 116, 111, 114]) = true) :
    Calls Try.prog 27 #[.string s] w (CompPost w) := by
  have hmm := @run_makeMap Try.prog
  have p1 : ∀ R v, _ := fun R v => bput1 (w.alloc R) (w.heap.size + 1) (by simp) v
  have p2 : ∀ R v a, _ := fun R v a => bput2 (w.alloc R) (w.heap.size + 1) (by simp) v a
  have p3 : ∀ R v a b, _ := fun R v a b => bput3 (w.alloc R) (w.heap.size + 1) (by simp) v a b
  have p4 : ∀ R v a b c, _ := fun R v a b c => bput4 (w.alloc R) (w.heap.size + 1) (by simp) v a b c
  have p5 : ∀ R v a b c d, _ := fun R v a b c d => bput5 (w.alloc R) (w.heap.size + 1) (by simp) v a b c d
  have s1 : ∀ R p v a b c d e, _ := fun R p v a b c d e => bset1 (w.alloc R) (w.heap.size + 1) (by simp) p v a b c d e
  have s2 : ∀ R p v a b c d e, _ := fun R p v a b c d e => bset2 (w.alloc R) (w.heap.size + 1) (by simp) p v a b c d e
  go_enter Try.func27, Try.ntmps27
  go_wp2
  go_region
  go_wp2
  refine bodyPost_ret (v := .agg #[.map (some (w.heap.size + 1)), I 400, I 100, I 1000, I 60]) (by simp [results, Try.results27, go_sem]) rfl ⟨7200, 1600, 450, 450, 800, 400, 100, 1000, 60, by unfold Good; omega, rfl, ?_, ?_⟩
  · exact heap_mid' _ _ _ _
  · exact Grown.drew (grown_comp _ _ _ _ _)

set_option maxHeartbeats 400000 in
theorem compositionOf_4 (s : ByteArray) (w : World) (h1 : (s.toList == [99, 114, 101, 100, 105, 116, 45, 98, 111, 110, 100, 115]) = false) (h2 : (s.toList == [99, 97, 115, 104, 45, 97, 110, 100, 45, 115, 104, 111, 114, 116, 45, 103, 111, 118, 101, 114, 110, 109, 101, 110, 116, 45, 98, 111, 110, 100, 115]) = false) (h3 : (s.toList == [97, 98, 115, 45, 111, 110, 101, 45, 111, 114, 105, 103, 105, 110, 97, 116, 111, 114]) = false) (h4 : (s.toList == [97, 98, 115, 45, 116, 111, 116, 97, 108]) = true) :
    Calls Try.prog 27 #[.string s] w (CompPost w) := by
  have hmm := @run_makeMap Try.prog
  have p1 : ∀ R v, _ := fun R v => bput1 (w.alloc R) (w.heap.size + 1) (by simp) v
  have p2 : ∀ R v a, _ := fun R v a => bput2 (w.alloc R) (w.heap.size + 1) (by simp) v a
  have p3 : ∀ R v a b, _ := fun R v a b => bput3 (w.alloc R) (w.heap.size + 1) (by simp) v a b
  have p4 : ∀ R v a b c, _ := fun R v a b c => bput4 (w.alloc R) (w.heap.size + 1) (by simp) v a b c
  have p5 : ∀ R v a b c d, _ := fun R v a b c d => bput5 (w.alloc R) (w.heap.size + 1) (by simp) v a b c d
  have s1 : ∀ R p v a b c d e, _ := fun R p v a b c d e => bset1 (w.alloc R) (w.heap.size + 1) (by simp) p v a b c d e
  have s2 : ∀ R p v a b c d e, _ := fun R p v a b c d e => bset2 (w.alloc R) (w.heap.size + 1) (by simp) p v a b c d e
  go_enter Try.func27, Try.ntmps27
  go_wp2
  go_region
  go_wp2
  refine bodyPost_ret (v := .agg #[.map (some (w.heap.size + 1)), I 400, I 100, I 1000, I 60]) (by simp [results, Try.results27, go_sem]) rfl ⟨6400, 2400, 450, 450, 800, 400, 100, 1000, 60, by unfold Good; omega, rfl, ?_, ?_⟩
  · exact heap_mid' _ _ _ _
  · exact Grown.drew (grown_comp _ _ _ _ _)

set_option maxHeartbeats 400000 in
theorem compositionOf_5 (s : ByteArray) (w : World) (h1 : (s.toList == [99, 114, 101, 100, 105, 116, 45, 98, 111, 110, 100, 115]) = false) (h2 : (s.toList == [99, 97, 115, 104, 45, 97, 110, 100, 45, 115, 104, 111, 114, 116, 45, 103, 111, 118, 101, 114, 110, 109, 101, 110, 116, 45, 98, 111, 110, 100, 115]) = false) (h3 : (s.toList == [97, 98, 115, 45, 111, 110, 101, 45, 111, 114, 105, 103, 105, 110, 97, 116, 111, 114]) = false) (h4 : (s.toList == [97, 98, 115, 45, 116, 111, 116, 97, 108]) = false) (h5 : (s.toList == [114, 101, 112, 111, 45, 102, 105, 110, 97, 110, 99, 105, 110, 103]) = true) :
    Calls Try.prog 27 #[.string s] w (CompPost w) := by
  have hmm := @run_makeMap Try.prog
  have p1 : ∀ R v, _ := fun R v => bput1 (w.alloc R) (w.heap.size + 1) (by simp) v
  have p2 : ∀ R v a, _ := fun R v a => bput2 (w.alloc R) (w.heap.size + 1) (by simp) v a
  have p3 : ∀ R v a b, _ := fun R v a b => bput3 (w.alloc R) (w.heap.size + 1) (by simp) v a b
  have p4 : ∀ R v a b c, _ := fun R v a b c => bput4 (w.alloc R) (w.heap.size + 1) (by simp) v a b c
  have p5 : ∀ R v a b c d, _ := fun R v a b c d => bput5 (w.alloc R) (w.heap.size + 1) (by simp) v a b c d
  go_enter Try.func27, Try.ntmps27
  go_wp2
  refine bodyPost_ret (v := .agg #[.map (some (w.heap.size + 1)), I 3900, I 100, I 4500, I 60]) (by simp [results, Try.results27, go_sem]) rfl ⟨7800, 1000, 450, 450, 800, 3900, 100, 4500, 60, by unfold Good; omega, rfl, ?_, ?_⟩
  · exact heap_mid' _ _ _ _
  · exact grown_comp _ _ _ _ _

set_option maxHeartbeats 400000 in
theorem compositionOf_6 (s : ByteArray) (w : World) (h1 : (s.toList == [99, 114, 101, 100, 105, 116, 45, 98, 111, 110, 100, 115]) = false) (h2 : (s.toList == [99, 97, 115, 104, 45, 97, 110, 100, 45, 115, 104, 111, 114, 116, 45, 103, 111, 118, 101, 114, 110, 109, 101, 110, 116, 45, 98, 111, 110, 100, 115]) = false) (h3 : (s.toList == [97, 98, 115, 45, 111, 110, 101, 45, 111, 114, 105, 103, 105, 110, 97, 116, 111, 114]) = false) (h4 : (s.toList == [97, 98, 115, 45, 116, 111, 116, 97, 108]) = false) (h5 : (s.toList == [114, 101, 112, 111, 45, 102, 105, 110, 97, 110, 99, 105, 110, 103]) = false) (h6 : (s.toList == [108, 105, 113, 117, 105, 100, 105, 116, 121, 45, 114, 101, 115, 116, 114, 105, 99, 116, 101, 100]) = true) :
    Calls Try.prog 27 #[.string s] w (CompPost w) := by
  have hmm := @run_makeMap Try.prog
  have p1 : ∀ R v, _ := fun R v => bput1 (w.alloc R) (w.heap.size + 1) (by simp) v
  have p2 : ∀ R v a, _ := fun R v a => bput2 (w.alloc R) (w.heap.size + 1) (by simp) v a
  have p3 : ∀ R v a b, _ := fun R v a b => bput3 (w.alloc R) (w.heap.size + 1) (by simp) v a b
  have p4 : ∀ R v a b c, _ := fun R v a b c => bput4 (w.alloc R) (w.heap.size + 1) (by simp) v a b c
  have p5 : ∀ R v a b c d, _ := fun R v a b c d => bput5 (w.alloc R) (w.heap.size + 1) (by simp) v a b c d
  go_enter Try.func27, Try.ntmps27
  go_wp2
  refine bodyPost_ret (v := .agg #[.map (some (w.heap.size + 1)), I 400, I 100, I 1000, I 260]) (by simp [results, Try.results27, go_sem]) rfl ⟨7800, 1000, 450, 450, 800, 400, 100, 1000, 260, by unfold Good; omega, rfl, ?_, ?_⟩
  · exact heap_mid' _ _ _ _
  · exact grown_comp _ _ _ _ _

set_option maxHeartbeats 400000 in
theorem compositionOf_7 (s : ByteArray) (w : World) (h1 : (s.toList == [99, 114, 101, 100, 105, 116, 45, 98, 111, 110, 100, 115]) = false) (h2 : (s.toList == [99, 97, 115, 104, 45, 97, 110, 100, 45, 115, 104, 111, 114, 116, 45, 103, 111, 118, 101, 114, 110, 109, 101, 110, 116, 45, 98, 111, 110, 100, 115]) = false) (h3 : (s.toList == [97, 98, 115, 45, 111, 110, 101, 45, 111, 114, 105, 103, 105, 110, 97, 116, 111, 114]) = false) (h4 : (s.toList == [97, 98, 115, 45, 116, 111, 116, 97, 108]) = false) (h5 : (s.toList == [114, 101, 112, 111, 45, 102, 105, 110, 97, 110, 99, 105, 110, 103]) = false) (h6 : (s.toList == [108, 105, 113, 117, 105, 100, 105, 116, 121, 45, 114, 101, 115, 116, 114, 105, 99, 116, 101, 100]) = false) :
    Calls Try.prog 27 #[.string s] w (CompPost w) := by
  have hmm := @run_makeMap Try.prog
  have p1 : ∀ R v, _ := fun R v => bput1 (w.alloc R) (w.heap.size + 1) (by simp) v
  have p2 : ∀ R v a, _ := fun R v a => bput2 (w.alloc R) (w.heap.size + 1) (by simp) v a
  have p3 : ∀ R v a b, _ := fun R v a b => bput3 (w.alloc R) (w.heap.size + 1) (by simp) v a b
  have p4 : ∀ R v a b c, _ := fun R v a b c => bput4 (w.alloc R) (w.heap.size + 1) (by simp) v a b c
  have p5 : ∀ R v a b c d, _ := fun R v a b c d => bput5 (w.alloc R) (w.heap.size + 1) (by simp) v a b c d
  go_enter Try.func27, Try.ntmps27
  go_wp2
  refine bodyPost_ret (v := .agg #[.map (some (w.heap.size + 1)), I 400, I 100, I 1000, I 60]) (by simp [results, Try.results27, go_sem]) rfl ⟨7800, 1000, 450, 450, 800, 400, 100, 1000, 60, by unfold Good; omega, rfl, ?_, ?_⟩
  · exact heap_mid' _ _ _ _
  · exact grown_comp _ _ _ _ _

theorem compositionOf_any (s : ByteArray) (w : World) : Calls Try.prog 27 #[.string s] w (CompPost w) := by
  cases h1 : (s.toList == [99, 114, 101, 100, 105, 116, 45, 98, 111, 110, 100, 115])
  case true => exact compositionOf_1 s w h1
  cases h2 : (s.toList == [99, 97, 115, 104, 45, 97, 110, 100, 45, 115, 104, 111, 114, 116, 45, 103, 111, 118, 101, 114, 110, 109, 101, 110, 116, 45, 98, 111, 110, 100, 115])
  case true => exact compositionOf_2 s w h1 h2
  cases h3 : (s.toList == [97, 98, 115, 45, 111, 110, 101, 45, 111, 114, 105, 103, 105, 110, 97, 116, 111, 114])
  case true => exact compositionOf_3 s w h1 h2 h3
  cases h4 : (s.toList == [97, 98, 115, 45, 116, 111, 116, 97, 108])
  case true => exact compositionOf_4 s w h1 h2 h3 h4
  cases h5 : (s.toList == [114, 101, 112, 111, 45, 102, 105, 110, 97, 110, 99, 105, 110, 103])
  case true => exact compositionOf_5 s w h1 h2 h3 h4 h5
  cases h6 : (s.toList == [108, 105, 113, 117, 105, 100, 105, 116, 121, 45, 114, 101, 115, 116, 114, 105, 99, 116, 101, 100])
  case true => exact compositionOf_6 s w h1 h2 h3 h4 h5 h6
  exact compositionOf_7 s w h1 h2 h3 h4 h5 h6

end Go.Proofs.Qxb6001100a
