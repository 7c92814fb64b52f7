/-
  No cell of these rows narrows 'for every input' (looked for: loops, veiled, ifaces, maps, wideKeys, modest, calm, conditions, laid).
  DERIVED. THE GIVEN ROWS OF THIS SEAT. 2 by the template 'for every input the law returns true; each argument reads behind the call as it read before'; 0 by the template 'total and deterministic' (their statements: Qxb6002620aTotals.lean).
  GIVEN WITH THE SEED: the statements are not yours to turn. If you find one false, say at which input.
  Laid BY PROGRAM, IN A SANDBOX (cutbox-rows.mjs): the forced cells as the released guide's own fill.sh prints them over the translation fd5e724091f90d52… (all of the seat's roots in one cut). By AI agents, Wed Nov 11 2026. No macro, syntax, notation, axiom, sorry.
-/
import Derived.Test.Qxb6002620aChecked
import GoSem.Claim
import GoSem.ClaimJoined
import GoSem.ClaimMapViews
import Derived.JoinedTies
import Derived.KernelRfl
namespace Go.Proofs.Qxb6002620a
/- THE CELL 'sum', in the pinned program and in every row, IS THE sha256 OF THE DUMP (.gsa) THAT Qxb6002620aProg.lean LOADS. Nothing in Lean hashes anything: it is a label: what it is worth is what the hold of that sum in a sandbox is worth. -/
noncomputable def Try.pinned : Pinned := { name := "qxb6002620a", sum := "fd5e724091f90d52612230165f5b3ee4c9fed7d2436b71a5c96c1b438dc228a3", checked := Try.checked }
namespace Rows
def none {H : Type} : Left H := { results := [], args := [] }

/-- 'zzlaws_internal_executor_c1.PropNearestIsExactHalfUpFloor': WHATEVER THE INPUT: true; the input reads as it did. -/
def propNearestIsExactHalfUpFloorSpec : ChangeSpec := { name := "propNearestIsExactHalfUpFloor", fn := fun _ => fun
  | [d] => { results := [.lit (.bool true)], args := [d] }
  | _ => none }
def propNearestIsExactHalfUpFloorRow : OpenClaim := { program := "qxb6002620a", sum := "fd5e724091f90d52612230165f5b3ee4c9fed7d2436b71a5c96c1b438dc228a3", func := "example.com/dialecta/dialecta/zzlaws_internal_executor_c1.PropNearestIsExactHalfUpFloor", spec := "propNearestIsExactHalfUpFloor", inPlace := ["math.archFloor", "math.Float64bits", "math.Float64frombits", "math.archTrunc"], apart := false }
def PropNearestIsExactHalfUpFloorSaid : Prop := propNearestIsExactHalfUpFloorRow.holds Try.pinned (OpenSpec.ofChange propNearestIsExactHalfUpFloorSpec)

/-- ITS FALSE NEIGHBOUR: 'it returns false'. Refute it at one input. -/
def propNearestIsExactHalfUpFloorWrong : ChangeSpec := { name := "propNearestIsExactHalfUpFloor", fn := fun _ => fun
  | [d] => { results := [.lit (.bool false)], args := [d] }
  | _ => none }
def PropNearestIsExactHalfUpFloorWrongFalsely : Prop := propNearestIsExactHalfUpFloorRow.holds Try.pinned (OpenSpec.ofChange propNearestIsExactHalfUpFloorWrong)

/-- 'zzlaws_internal_executor_c1.PropLoopEndedIsExactSignTest': WHATEVER THE INPUT: true; the input reads as it did. -/
def propLoopEndedIsExactSignTestSpec : ChangeSpec := { name := "propLoopEndedIsExactSignTest", fn := fun _ => fun
  | [d1, d2, d3] => { results := [.lit (.bool true)], args := [d1, d2, d3] }
  | _ => none }
def propLoopEndedIsExactSignTestRow : OpenClaim := { program := "qxb6002620a", sum := "fd5e724091f90d52612230165f5b3ee4c9fed7d2436b71a5c96c1b438dc228a3", func := "example.com/dialecta/dialecta/zzlaws_internal_executor_c1.PropLoopEndedIsExactSignTest", spec := "propLoopEndedIsExactSignTest", apart := false }
def PropLoopEndedIsExactSignTestSaid : Prop := propLoopEndedIsExactSignTestRow.holds Try.pinned (OpenSpec.ofChange propLoopEndedIsExactSignTestSpec)

/-- ITS FALSE NEIGHBOUR: 'it returns false'. Refute it at one input. -/
def propLoopEndedIsExactSignTestWrong : ChangeSpec := { name := "propLoopEndedIsExactSignTest", fn := fun _ => fun
  | [d1, d2, d3] => { results := [.lit (.bool false)], args := [d1, d2, d3] }
  | _ => none }
def PropLoopEndedIsExactSignTestWrongFalsely : Prop := propLoopEndedIsExactSignTestRow.holds Try.pinned (OpenSpec.ofChange propLoopEndedIsExactSignTestWrong)

end Rows
end Go.Proofs.Qxb6002620a
