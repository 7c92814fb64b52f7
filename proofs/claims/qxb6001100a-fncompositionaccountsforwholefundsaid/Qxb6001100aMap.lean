/- MAPS WITH STRING KEYS, ENTRY BY ENTRY: what a store into a block of known entries leaves, and what a look-up finds. -/
import Derived.Test.Qxb6001100aProg
import Derived.WalkKit
import Derived.WalkSpells
namespace Go.Proofs.Qxb6001100a
open Go.RowKit
open Go.MapKept (IsKey)

section
variable {P : Program} {T K E : TypeId}

theorem run_store_new (hT : P.underlying T = some (.map K E)) (hK : P.underlying K = some .string) (w : World) (r : Nat) (es : Array MapEntry) (c : Nat) (hb : w.heap[r]? = some (.map es c)) (key : ByteArray) (v : Value) (hf : Instr.findNow .string (.string key) es.toList 0 = some none) :
    (Instr.mapUpdate T (.map (some r)) (.string key) v).run P w = .ok () { w with heap := w.heap.setIfInBounds r (.map (es.push ⟨.string key, v, c⟩) (c + 1)) } := by
  have hk : IsKey .string (.string key) := by simp [IsKey]
  simp [Instr.mapUpdate, run_underlying hT, MapKept.run_getObj_map hb, MapKept.run_checkKey hK hk, MapKept.run_findKey hK hf, MapKept.run_setObj_map _ hb, Result.andThen]

theorem run_store_old (hT : P.underlying T = some (.map K E)) (hK : P.underlying K = some .string) (w : World) (r : Nat) (es : Array MapEntry) (c : Nat) (hb : w.heap[r]? = some (.map es c)) (key : ByteArray) (v v0 : Value) (i b : Nat) (hf : Instr.findNow .string (.string key) es.toList 0 = some (some (i, v0))) (hi : es[i]? = some ⟨.string key, v0, b⟩) :
    (Instr.mapUpdate T (.map (some r)) (.string key) v).run P w = .ok () { w with heap := w.heap.setIfInBounds r (.map (es.modify i fun e => { e with key := .string key, val := v }) c) } := by
  have hk : IsKey .string (.string key) := by simp [IsKey]
  simp [Instr.mapUpdate, run_underlying hT, MapKept.run_getObj_map hb, MapKept.run_checkKey hK hk, MapKept.run_findKey hK hf, hi, MapKept.run_keyThatStays hk, MapKept.run_setObj_map _ hb, Result.andThen]

theorem run_look_hit (hT : P.underlying T = some (.map K E)) (hK : P.underlying K = some .string) (w : World) (r : Nat) (es : Array MapEntry) (c : Nat) (hb : w.heap[r]? = some (.map es c)) (key : ByteArray) (v : Value) (i : Nat) (hf : Instr.findNow .string (.string key) es.toList 0 = some (some (i, v))) :
    (Instr.lookup T (.map (some r)) (.string key) false).run P w = .ok v w := by
  have hk : IsKey .string (.string key) := by simp [IsKey]
  simp [Instr.lookup, run_underlying hT, MapKept.run_getObj_map hb, MapKept.run_checkKey hK hk, MapKept.run_findKey hK hf, Result.andThen]

theorem run_look_miss (hT : P.underlying T = some (.map K E)) (hK : P.underlying K = some .string) (w : World) (r : Nat) (es : Array MapEntry) (c : Nat) (hb : w.heap[r]? = some (.map es c)) (key : ByteArray) (z : Value) (hz : (zeroValue E).run P w = .ok z w) (hf : Instr.findNow .string (.string key) es.toList 0 = some none) :
    (Instr.lookup T (.map (some r)) (.string key) false).run P w = .ok z w := by
  have hk : IsKey .string (.string key) := by simp [IsKey]
  simp [Instr.lookup, run_underlying hT, MapKept.run_getObj_map hb, MapKept.run_checkKey hK hk, MapKept.run_findKey hK hf, hz, Result.andThen]
end

theorem set_last (X : World) (o o' : Obj) : ({ X.alloc o with heap := (X.alloc o).heap.setIfInBounds X.heap.size o' } : World) = X.alloc o' := by
  show ({ X.alloc o with heap := (X.heap.push o).setIfInBounds X.heap.size o' } : World) = { X with heap := X.heap.push o' }
  refine congrArg (fun h => ({ X with heap := h } : World)) ?_
  apply Array.ext_getElem?
  intro i
  simp only [Array.getElem?_setIfInBounds, Array.getElem?_push, Array.size_push]
  split
  · rename_i h; subst h; simp
  · rename_i h; rw [if_neg (fun e => h e.symm), if_neg (fun e => h e.symm)]

end Go.Proofs.Qxb6001100a
