/- THE WALK OF '(*eventLine).values': an array of the six names, each with a pointer to its field. -/
import Derived.Test.Qxb6000782aScan
import Derived.WalkSpells
namespace Go.Proofs.Qxb6000782a
open Go.RowKit
set_option linter.unusedVariables false

/-- The six names, as bytes. -/
def nm : Nat → ByteArray
  | 0 => ⟨#[116, 105, 109, 101]⟩
  | 1 => ⟨#[98, 108, 111, 99, 107]⟩
  | 2 => ⟨#[97, 99, 99, 111, 117, 110, 116]⟩
  | 3 => ⟨#[111, 112]⟩
  | 4 => ⟨#[97, 109, 111, 117, 110, 116]⟩
  | _ => ⟨#[108, 111, 99, 107, 117, 112]⟩

/-- What 'values' hands back for the event line that begins block g. -/
def kvs (g : Nat) : Array Value := #[.string (nm 0), .pointer (some ⟨g, 0, none⟩), .string (nm 1), .pointer (some ⟨g, 3, none⟩), .string (nm 2), .pointer (some ⟨g, 6, none⟩),
  .string (nm 3), .pointer (some ⟨g, 9, none⟩), .string (nm 4), .pointer (some ⟨g, 12, none⟩), .string (nm 5), .pointer (some ⟨g, 15, none⟩)]

set_option maxHeartbeats 400000 in
theorem values_any (g : Nat) (w : World) :
    Calls Try.prog 34 #[.pointer (some ⟨g, 0, none⟩)] w fun e w' => e = .returned (.agg (kvs g)) ∧ w' = (w.alloc (.cells (kvs g) 57)).drew := by
  go_enter Try.func34, Try.ntmps34
  go_wp2
  go_region
  go_wp2
  exact bodyPost_ret (v := .agg (kvs g)) (by simp [results, Try.results34, go_sem, kvs, nm]) rfl ⟨rfl, rfl⟩

end Go.Proofs.Qxb6000782a
