/- THE WALK OF '(*fund).misreport' AND OF 'ZZMisreport'. -/
import Derived.Test.Qxb6001100aMap
import Derived.Deep.QuietTactic
import Derived.BigQuiet
import Derived.WalkSmall
namespace Go.Proofs.Qxb6001100a
open Go.RowKit
set_option linter.unusedVariables false
set_option linter.unusedSimpArgs false

abbrev kA : ByteArray := ⟨#[97, 110, 110, 111, 117, 110, 99, 101]⟩
abbrev kN : ByteArray := ⟨#[110, 111, 116, 105, 102, 121]⟩
abbrev kE : ByteArray := ⟨#[101, 114, 114, 111, 114]⟩

/-- What the map of levels holds for a finding. -/
def lev (s : ByteArray) (u : Int) : Int := if s == kA then u * 80 / 10000 else if s == kN then u * 35 / 10000 else if s == kE then 1 else 0

theorem zero2 (w : World) : (zeroValue 2).run Try.prog w = .ok (.int .i64 0) w := by kernel_rfl

theorem look_lev (s : ByteArray) (u : Int) (X : World) (r : Nat) (hr : r = X.heap.size) :
    (Instr.lookup 55 (.map (some r)) (.string s) false).run Try.prog (X.alloc (.map #[⟨.string kA, .int .i64 (u * 80 / 10000), 0⟩, ⟨.string kN, .int .i64 (u * 35 / 10000), 1⟩, ⟨.string kE, .int .i64 1, 2⟩] 3)) =
      .ok (.int .i64 (lev s u)) (X.alloc (.map #[⟨.string kA, .int .i64 (u * 80 / 10000), 0⟩, ⟨.string kN, .int .i64 (u * 35 / 10000), 1⟩, ⟨.string kE, .int .i64 1, 2⟩] 3)) := by
  subst hr
  unfold lev
  cases h1 : (s == kA)
  · cases h2 : (s == kN)
    · cases h3 : (s == kE)
      · exact run_look_miss Try.underlying55 Try.underlying41 _ _ _ _ (heap_alloc_new X _) s _ (zero2 _) (by simp [Instr.findNow, Instr.sameNow, h1, h2, h3])
      · exact run_look_hit Try.underlying55 Try.underlying41 _ _ _ _ (heap_alloc_new X _) s _ 2 (by simp [Instr.findNow, Instr.sameNow, h1, h2, h3])
    · exact run_look_hit Try.underlying55 Try.underlying41 _ _ _ _ (heap_alloc_new X _) s _ 1 (by simp [Instr.findNow, Instr.sameNow, h1, h2])
  · exact run_look_hit Try.underlying55 Try.underlying41 _ _ _ _ (heap_alloc_new X _) s _ 0 (by simp [Instr.findNow, Instr.sameNow, h1])

theorem put1 (v : Value) (X : World) (r : Nat) (hr : r = X.heap.size) :
    (Instr.mapUpdate 55 (.map (some r)) (.string kA) v).run Try.prog (X.alloc (.map #[] 0)) = .ok () (X.alloc (.map #[⟨.string kA, v, 0⟩] 1)) := by
  subst hr
  rw [run_store_new Try.underlying55 Try.underlying41 _ _ _ _ (heap_alloc_new X _) kA v (by rfl), set_last]
  rfl

theorem put2 (v a : Value) (X : World) (r : Nat) (hr : r = X.heap.size) :
    (Instr.mapUpdate 55 (.map (some r)) (.string kN) v).run Try.prog (X.alloc (.map #[⟨.string kA, a, 0⟩] 1)) = .ok () (X.alloc (.map #[⟨.string kA, a, 0⟩, ⟨.string kN, v, 1⟩] 2)) := by
  subst hr
  rw [run_store_new Try.underlying55 Try.underlying41 _ _ _ _ (heap_alloc_new X _) kN v (by rfl), set_last]
  rfl

theorem put3 (v a b : Value) (X : World) (r : Nat) (hr : r = X.heap.size) :
    (Instr.mapUpdate 55 (.map (some r)) (.string kE) v).run Try.prog (X.alloc (.map #[⟨.string kA, a, 0⟩, ⟨.string kN, b, 1⟩] 2)) = .ok () (X.alloc (.map #[⟨.string kA, a, 0⟩, ⟨.string kN, b, 1⟩, ⟨.string kE, v, 2⟩] 3)) := by
  subst hr
  rw [run_store_new Try.underlying55 Try.underlying41 _ _ _ _ (heap_alloc_new X _) kE v (by rfl), set_last]
  rfl

def sgn (up : Bool) (n : Int) : Int := if up then n else -n

theorem lev_bounds (s : ByteArray) (u : Int) (h0 : 286 ≤ u) (h1 : u ≤ 72057594037927936) : 0 ≤ lev s u ∧ lev s u ≤ 72057594037927936 := by
  unfold lev
  split
  · omega
  · split
    · omega
    · split <;> omega

theorem ret_i64 {a b : Int} (h : a = b) : Ending.returned (.int .i64 a) = .returned (.int .i64 b) := by rw [h]

theorem misreport_any (g : Nat) (u : Int) (up : Bool) (s : ByteArray) (w : World) (h0 : 286 ≤ u) (h1 : u ≤ 72057594037927936)
    (h4 : w.cell? ⟨g, 4, none⟩ = some (.string s)) (h5 : w.cell? ⟨g, 5, none⟩ = some (.int .i64 0)) (h6 : w.cell? ⟨g, 6, none⟩ = some (.bool up)) (h19 : w.cell? ⟨g, 19, none⟩ = some (.int .i64 u)) :
    Calls Try.prog 23 #[.pointer (some ⟨g, 0, none⟩)] w fun e w' => e = .returned (.int .i64 (sgn up (lev s u))) ∧ Grown w w' := by
  have hmm := @run_makeMap Try.prog
  have p1 : ∀ q v, (Instr.mapUpdate 55 (.map (some w.heap.size)) (.string kA) v).run Try.prog ((w.drewN q).alloc (.map #[] 0)) = .ok () ((w.drewN q).alloc (.map #[⟨.string kA, v, 0⟩] 1)) := fun q v => put1 v (w.drewN q) _ rfl
  have p2 : ∀ q v a, (Instr.mapUpdate 55 (.map (some w.heap.size)) (.string kN) v).run Try.prog ((w.drewN q).alloc (.map #[⟨.string kA, a, 0⟩] 1)) = .ok () ((w.drewN q).alloc (.map #[⟨.string kA, a, 0⟩, ⟨.string kN, v, 1⟩] 2)) := fun q v a => put2 v a (w.drewN q) _ rfl
  have p3 : ∀ q v a b, (Instr.mapUpdate 55 (.map (some w.heap.size)) (.string kE) v).run Try.prog ((w.drewN q).alloc (.map #[⟨.string kA, a, 0⟩, ⟨.string kN, b, 1⟩] 2)) = .ok () ((w.drewN q).alloc (.map #[⟨.string kA, a, 0⟩, ⟨.string kN, b, 1⟩, ⟨.string kE, v, 2⟩] 3)) := fun q v a b => put3 v a b (w.drewN q) _ rfl
  have pl := fun q => look_lev s u (w.drewN q) w.heap.size rfl
  obtain ⟨l0, l1⟩ := lev_bounds s u h0 h1
  have HM : Hid (∀ q es c, Grown w ((w.drewN q).alloc (.map es c))) := fun q es c => Grown.allocMap (show Grown w (w.drewN q) from Grown.refl w) es c
  have hg : g < w.heap.size := World.block_lt_of_cell? _ _ h4
  have c4 : ∀ q o, ((w.drewN q).alloc o).cell? ⟨g, 4, none⟩ = some (.string s) := fun q o => cell_later (w := w) ((below_drewN (Below.refl _ _) q).alloc (Nat.le_refl _) o) h4
  have c6 : ∀ q o, ((w.drewN q).alloc o).cell? ⟨g, 6, none⟩ = some (.bool up) := fun q o => cell_later (w := w) ((below_drewN (Below.refl _ _) q).alloc (Nat.le_refl _) o) h6
  cases up
  · go_enter Try.func23, Try.ntmps23
    go_wp2
    go_quiet (fail)
    go_wp2
    go_ret
    exact ⟨rfl, HM.out _ _ _⟩
  · go_enter Try.func23, Try.ntmps23
    go_wp2
    go_quiet (fail)
    go_wp2
    go_ret
    exact ⟨rfl, HM.out _ _ _⟩

theorem grown_trans {a b c : World} (h : Grown a b) (k : Grown b c) : Grown a c := by
  refine ⟨?_, fun p => (k.2.1 p).trans (h.2.1 p), Nat.le_trans h.2.2 k.2.2⟩
  exact World.keptBut_trans h.1 k.1

theorem zzMisreport_any (u : Int) (up : Bool) (s : ByteArray) (w : World) (h0 : 286 ≤ u) (h1 : u ≤ 72057594037927936) :
    Calls Try.prog 17 #[.int .i64 u, .int .i64 u, .int .i64 0, .string s, .bool up] w fun e w' => e = .returned (.int .i64 (sgn up (lev s u))) ∧ Grown w w' := by
  go_enter Try.func17, Try.ntmps17
  go_wp2_with fail
  refine (misreport_any w.heap.size u up s _ h0 h1 (by simp) (by simp) (by simp) (by simp)).mono ?_
  rintro e w1 ⟨rfl, hg⟩
  go_wp2
  go_ret
  exact ⟨rfl, grown_trans ((Grown.refl _).alloc _ _) hg⟩

end Go.Proofs.Qxb6001100a
