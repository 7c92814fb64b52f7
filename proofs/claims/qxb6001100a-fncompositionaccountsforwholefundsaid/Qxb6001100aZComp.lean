/- THE WALKS OF 'ZZCompositionOf' AND 'compositionArrB1'. -/
import Derived.Test.Qxb6001100aComp
namespace Go.Proofs.Qxb6001100a
open Go.RowKit
set_option linter.unusedVariables false
set_option linter.unusedSimpArgs false

theorem look5 (W : World) (m : Nat) (c a sg lg pb : Value) (h : W.heap[m]? = some (.map (five c a sg lg pb) 5)) :
    (∀ n, (Instr.lookup 56 (.map (some m)) (.string kC) false).run Try.prog (W.drewN n) = .ok c (W.drewN n)) ∧
    (∀ n, (Instr.lookup 56 (.map (some m)) (.string kB) false).run Try.prog (W.drewN n) = .ok a (W.drewN n)) ∧
    (∀ n, (Instr.lookup 56 (.map (some m)) (.string kS) false).run Try.prog (W.drewN n) = .ok sg (W.drewN n)) ∧
    (∀ n, (Instr.lookup 56 (.map (some m)) (.string kL) false).run Try.prog (W.drewN n) = .ok lg (W.drewN n)) ∧
    (∀ n, (Instr.lookup 56 (.map (some m)) (.string kP) false).run Try.prog (W.drewN n) = .ok pb (W.drewN n)) :=
  ⟨fun n => run_look_hit Try.underlying56 Try.underlying60 (W.drewN n) _ _ _ h kC c 0 (by rfl), fun n => run_look_hit Try.underlying56 Try.underlying60 (W.drewN n) _ _ _ h kB a 1 (by rfl), fun n => run_look_hit Try.underlying56 Try.underlying60 (W.drewN n) _ _ _ h kS sg 2 (by rfl),
    fun n => run_look_hit Try.underlying56 Try.underlying60 (W.drewN n) _ _ _ h kL lg 3 (by rfl), fun n => run_look_hit Try.underlying56 Try.underlying60 (W.drewN n) _ _ _ h kP pb 4 (by rfl)⟩

theorem len5 (W : World) (m : Nat) (es : Array MapEntry) (k : Nat) (h : W.heap[m]? = some (.map es k)) (n : Nat) (ty : TypeId) :
    (Builtin.len_ #[56] ty #[.map (some m)]).run Try.prog (W.drewN n) = .ok (.int .i64 es.size) (W.drewN n) := by
  have h' : (W.drewN n).heap[m]? = some (.map es k) := h
  simp [Builtin.len_, Builtin.lenOf, run_underlying Try.underlying56, MapKept.run_getObj_map h', Result.andThen, goInt]

def TenPost (w : World) (e : Ending) (w' : World) : Prop :=
  ∃ c a sg lg pb dep res repo restr : Int, Good c a sg lg pb dep res repo restr ∧ e = .returned (.tuple #[I c, I a, I sg, I lg, I pb, I dep, I res, I repo, I restr, I 5]) ∧ Grown w w'

set_option maxHeartbeats 1000000 in
theorem zzCompositionOf_any (s : ByteArray) (w : World) : Calls Try.prog 24 #[.string s] w (TenPost w) := by
  go_enter Try.func24, Try.ntmps24
  go_wp2_with fail
  refine (compositionOf_any s _).mono ?_
  rintro e w1 ⟨c, a, sg, lg, pb, dep, res, repo, restr, hgood, rfl, hmap, hg⟩
  have HG : Hid (Good c a sg lg pb dep res repo restr) := hgood
  obtain ⟨W, hW⟩ : ∃ W, W = w1.alloc (.cells #[.map (some (w.heap.size + 1)), I dep, I res, I repo, I restr] 58) := ⟨_, rfl⟩
  have hmW : W.heap[w.heap.size + 1]? = some (.map (five (I c) (I a) (I sg) (I lg) (I pb)) 5) := by
    rw [hW, Below.heap_alloc _ _ _ (lt_of_block hmap)]; exact hmap
  have HGW : Hid (Grown w W) := by rw [hW]; exact Grown.alloc hg _ _
  have ll : ∀ n ty, (Builtin.len_ #[56] ty #[.map (some (w.heap.size + 1))]).run Try.prog (W.drewN n) = .ok (.int .i64 5) (W.drewN n) := fun n ty => len5 W _ _ _ hmW n ty
  obtain ⟨l1, l2, l3, l4, l5⟩ := look5 W _ _ _ _ _ _ hmW
  have d0 : W.cell? ⟨w1.heap.size, 0, none⟩ = some (.map (some (w.heap.size + 1))) := by rw [hW]; simp
  have d1 : W.cell? ⟨w1.heap.size, 1, none⟩ = some (I dep) := by rw [hW]; simp
  have d2 : W.cell? ⟨w1.heap.size, 2, none⟩ = some (I res) := by rw [hW]; simp
  have d3 : W.cell? ⟨w1.heap.size, 3, none⟩ = some (I repo) := by rw [hW]; simp
  have d4 : W.cell? ⟨w1.heap.size, 4, none⟩ = some (I restr) := by rw [hW]; simp
  clear hgood hmap hg
  go_wp2_with fail
  rw [← hW]
  clear hW
  go_quiet (fail)
  go_wp2
  exact bodyPost_ret (v := .tuple #[I c, I a, I sg, I lg, I pb, I dep, I res, I repo, I restr, I 5]) (by simp [results, Try.results24, go_sem]) rfl ⟨c, a, sg, lg, pb, dep, res, repo, restr, HG.out, rfl, HGW.out⟩

def ArrPost (w : World) (e : Ending) (w' : World) : Prop :=
  ∃ c a sg lg pb dep res repo restr : Int, Good c a sg lg pb dep res repo restr ∧ e = .returned (.agg #[I c, I a, I sg, I lg, I pb, I dep, I res, I repo, I restr, I 5]) ∧ Grown w w'

set_option maxHeartbeats 1000000 in
theorem compositionArr_any (s : ByteArray) (w : World) : Calls Try.prog 19 #[.string s] w (ArrPost w) := by
  go_enter Try.func19, Try.ntmps19
  go_wp2_with fail
  refine (zzCompositionOf_any s _).mono ?_
  rintro e w1 ⟨c, a, sg, lg, pb, dep, res, repo, restr, hgood, rfl, hg⟩
  have HG : Hid (Good c a sg lg pb dep res repo restr) := hgood
  have HGW : Hid (Grown w w1) := grown_trans ((Grown.refl _).alloc _ _) hg
  have hc : ∀ j, w1.cell? ⟨w.heap.size, j, none⟩ = (#[I 0, I 0, I 0, I 0, I 0, I 0, I 0, I 0, I 0, I 0])[j]? := by
    intro j
    rw [hg.1.cell (by simp) (by simp)]
    simp
  have hf : ∀ j, w1.frozen? ⟨w.heap.size, j, none⟩ = false := by
    intro j
    rw [hg.2.1]
    simp
  clear hgood hg
  go_wp2
  refine bodyPost_ret (v := .agg #[I c, I a, I sg, I lg, I pb, I dep, I res, I repo, I restr, I 5]) ?_ rfl ⟨c, a, sg, lg, pb, dep, res, repo, restr, HG.out, rfl, ?_⟩
  · simp [results, Try.results19, go_sem, hc, hf]
  · iterate 10 refine Grown.setCell ?_ (Nat.le_refl _) _
    exact HGW.out

end Go.Proofs.Qxb6001100a
