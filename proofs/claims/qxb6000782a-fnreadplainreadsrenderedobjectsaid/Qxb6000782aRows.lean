/-
  No cell of these rows narrows 'for every input' (looked for: loops, veiled, ifaces, maps, wideKeys, modest, calm, conditions, laid).
  DERIVED. THE GIVEN ROWS OF THIS SEAT. 6 by the template 'for every input the law returns true; each argument reads behind the call as it read before'; 0 by the template 'total and deterministic' (their statements: Qxb6000782aTotals.lean).
  GIVEN WITH THE SEED: the statements are not yours to turn. If you find one false, say at which input.
  Laid BY PROGRAM, IN A SANDBOX (cutbox-rows.mjs): the forced cells as the released guide's own fill.sh prints them over the translation 606f742b35de39e7… (all of the seat's roots in one cut). By AI agents, Wed Nov 11 2026. No macro, syntax, notation, axiom, sorry.
-/
import Derived.Test.Qxb6000782aChecked
import GoSem.Claim
import GoSem.ClaimJoined
import GoSem.ClaimMapViews
import Derived.JoinedTies
import Derived.KernelRfl
namespace Go.Proofs.Qxb6000782a
/- THE CELL 'sum', in the pinned program and in every row, IS THE sha256 OF THE DUMP (.gsa) THAT Qxb6000782aProg.lean LOADS. Nothing in Lean hashes anything: it is a label: what it is worth is what the hold of that sum in a sandbox is worth. -/
noncomputable def Try.pinned : Pinned := { name := "qxb6000782a", sum := "606f742b35de39e7fc6c495b4990c13a8494d6eb6ac54720eb69be4659e9fab4", checked := Try.checked }
namespace Rows
def none {H : Type} : Left H := { results := [], args := [] }

/-- 'zzlaws_root_b1.FnPlainEndIsLongestPlainToken': WHATEVER THE INPUT: true; the input reads as it did. -/
def fnPlainEndIsLongestPlainTokenSpec : ChangeSpec := { name := "fnPlainEndIsLongestPlainToken", fn := fun _ => fun
  | [d1, d2] => { results := [.lit (.bool true)], args := [d1, d2] }
  | _ => none }
def fnPlainEndIsLongestPlainTokenRow : OpenClaim := { program := "qxb6000782a", sum := "606f742b35de39e7fc6c495b4990c13a8494d6eb6ac54720eb69be4659e9fab4", func := "example.com/lockweight/lockweight/zzlaws_root_b1.FnPlainEndIsLongestPlainToken", spec := "fnPlainEndIsLongestPlainToken", apart := false }
def FnPlainEndIsLongestPlainTokenSaid : Prop := fnPlainEndIsLongestPlainTokenRow.holds Try.pinned (OpenSpec.ofChange fnPlainEndIsLongestPlainTokenSpec)

/-- ITS FALSE NEIGHBOUR: 'it returns false'. Refute it at one input. -/
def fnPlainEndIsLongestPlainTokenWrong : ChangeSpec := { name := "fnPlainEndIsLongestPlainToken", fn := fun _ => fun
  | [d1, d2] => { results := [.lit (.bool false)], args := [d1, d2] }
  | _ => none }
def FnPlainEndIsLongestPlainTokenWrongFalsely : Prop := fnPlainEndIsLongestPlainTokenRow.holds Try.pinned (OpenSpec.ofChange fnPlainEndIsLongestPlainTokenWrong)

/-- 'zzlaws_root_b1.FnPlainEndReadsOnlyItsToken': WHATEVER THE INPUT: true; the input reads as it did. -/
def fnPlainEndReadsOnlyItsTokenSpec : ChangeSpec := { name := "fnPlainEndReadsOnlyItsToken", fn := fun _ => fun
  | [d1, d2, d3, d4] => { results := [.lit (.bool true)], args := [d1, d2, d3, d4] }
  | _ => none }
def fnPlainEndReadsOnlyItsTokenRow : OpenClaim := { program := "qxb6000782a", sum := "606f742b35de39e7fc6c495b4990c13a8494d6eb6ac54720eb69be4659e9fab4", func := "example.com/lockweight/lockweight/zzlaws_root_b1.FnPlainEndReadsOnlyItsToken", spec := "fnPlainEndReadsOnlyItsToken", apart := false }
def FnPlainEndReadsOnlyItsTokenSaid : Prop := fnPlainEndReadsOnlyItsTokenRow.holds Try.pinned (OpenSpec.ofChange fnPlainEndReadsOnlyItsTokenSpec)

/-- ITS FALSE NEIGHBOUR: 'it returns false'. Refute it at one input. -/
def fnPlainEndReadsOnlyItsTokenWrong : ChangeSpec := { name := "fnPlainEndReadsOnlyItsToken", fn := fun _ => fun
  | [d1, d2, d3, d4] => { results := [.lit (.bool false)], args := [d1, d2, d3, d4] }
  | _ => none }
def FnPlainEndReadsOnlyItsTokenWrongFalsely : Prop := fnPlainEndReadsOnlyItsTokenRow.holds Try.pinned (OpenSpec.ofChange fnPlainEndReadsOnlyItsTokenWrong)

/-- 'zzlaws_root_b1.FnValueCaseFlipKeepsTheClass': WHATEVER THE INPUT: true; the input reads as it did. -/
def fnValueCaseFlipKeepsTheClassSpec : ChangeSpec := { name := "fnValueCaseFlipKeepsTheClass", fn := fun _ => fun
  | [d1, d2] => { results := [.lit (.bool true)], args := [d1, d2] }
  | _ => none }
def fnValueCaseFlipKeepsTheClassRow : OpenClaim := { program := "qxb6000782a", sum := "606f742b35de39e7fc6c495b4990c13a8494d6eb6ac54720eb69be4659e9fab4", func := "example.com/lockweight/lockweight/zzlaws_root_b1.FnValueCaseFlipKeepsTheClass", spec := "fnValueCaseFlipKeepsTheClass", apart := false }
def FnValueCaseFlipKeepsTheClassSaid : Prop := fnValueCaseFlipKeepsTheClassRow.holds Try.pinned (OpenSpec.ofChange fnValueCaseFlipKeepsTheClassSpec)

/-- ITS FALSE NEIGHBOUR: 'it returns false'. Refute it at one input. -/
def fnValueCaseFlipKeepsTheClassWrong : ChangeSpec := { name := "fnValueCaseFlipKeepsTheClass", fn := fun _ => fun
  | [d1, d2] => { results := [.lit (.bool false)], args := [d1, d2] }
  | _ => none }
def FnValueCaseFlipKeepsTheClassWrongFalsely : Prop := fnValueCaseFlipKeepsTheClassRow.holds Try.pinned (OpenSpec.ofChange fnValueCaseFlipKeepsTheClassWrong)

/-- 'zzlaws_root_b1.FnReadPlainReadsRenderedObject': WHATEVER THE INPUT: true; the input reads as it did. -/
def fnReadPlainReadsRenderedObjectSpec : ChangeSpec := { name := "fnReadPlainReadsRenderedObject", fn := fun _ => fun
  | [d1, d2, d3, d4] => { results := [.lit (.bool true)], args := [d1, d2, d3, d4] }
  | _ => none }
def fnReadPlainReadsRenderedObjectRow : OpenClaim := { program := "qxb6000782a", sum := "606f742b35de39e7fc6c495b4990c13a8494d6eb6ac54720eb69be4659e9fab4", func := "example.com/lockweight/lockweight/zzlaws_root_b1.FnReadPlainReadsRenderedObject", spec := "fnReadPlainReadsRenderedObject", apart := false }
def FnReadPlainReadsRenderedObjectSaid : Prop := fnReadPlainReadsRenderedObjectRow.holds Try.pinned (OpenSpec.ofChange fnReadPlainReadsRenderedObjectSpec)

/-- ITS FALSE NEIGHBOUR: 'it returns false'. Refute it at one input. -/
def fnReadPlainReadsRenderedObjectWrong : ChangeSpec := { name := "fnReadPlainReadsRenderedObject", fn := fun _ => fun
  | [d1, d2, d3, d4] => { results := [.lit (.bool false)], args := [d1, d2, d3, d4] }
  | _ => none }
def FnReadPlainReadsRenderedObjectWrongFalsely : Prop := fnReadPlainReadsRenderedObjectRow.holds Try.pinned (OpenSpec.ofChange fnReadPlainReadsRenderedObjectWrong)

/-- 'zzlaws_root_b1.FnReadPlainRefusesTrailingBytes': WHATEVER THE INPUT: true; the input reads as it did. -/
def fnReadPlainRefusesTrailingBytesSpec : ChangeSpec := { name := "fnReadPlainRefusesTrailingBytes", fn := fun _ => fun
  | [d1, d2] => { results := [.lit (.bool true)], args := [d1, d2] }
  | _ => none }
def fnReadPlainRefusesTrailingBytesRow : OpenClaim := { program := "qxb6000782a", sum := "606f742b35de39e7fc6c495b4990c13a8494d6eb6ac54720eb69be4659e9fab4", func := "example.com/lockweight/lockweight/zzlaws_root_b1.FnReadPlainRefusesTrailingBytes", spec := "fnReadPlainRefusesTrailingBytes", apart := false }
def FnReadPlainRefusesTrailingBytesSaid : Prop := fnReadPlainRefusesTrailingBytesRow.holds Try.pinned (OpenSpec.ofChange fnReadPlainRefusesTrailingBytesSpec)

/-- ITS FALSE NEIGHBOUR: 'it returns false'. Refute it at one input. -/
def fnReadPlainRefusesTrailingBytesWrong : ChangeSpec := { name := "fnReadPlainRefusesTrailingBytes", fn := fun _ => fun
  | [d1, d2] => { results := [.lit (.bool false)], args := [d1, d2] }
  | _ => none }
def FnReadPlainRefusesTrailingBytesWrongFalsely : Prop := fnReadPlainRefusesTrailingBytesRow.holds Try.pinned (OpenSpec.ofChange fnReadPlainRefusesTrailingBytesWrong)

/-- 'zzlaws_root_b1.FnReadPlainReuseIsFresh': WHATEVER THE INPUT: true; the input reads as it did. -/
def fnReadPlainReuseIsFreshSpec : ChangeSpec := { name := "fnReadPlainReuseIsFresh", fn := fun _ => fun
  | [d1, d2] => { results := [.lit (.bool true)], args := [d1, d2] }
  | _ => none }
def fnReadPlainReuseIsFreshRow : OpenClaim := { program := "qxb6000782a", sum := "606f742b35de39e7fc6c495b4990c13a8494d6eb6ac54720eb69be4659e9fab4", func := "example.com/lockweight/lockweight/zzlaws_root_b1.FnReadPlainReuseIsFresh", spec := "fnReadPlainReuseIsFresh", apart := false }
def FnReadPlainReuseIsFreshSaid : Prop := fnReadPlainReuseIsFreshRow.holds Try.pinned (OpenSpec.ofChange fnReadPlainReuseIsFreshSpec)

/-- ITS FALSE NEIGHBOUR: 'it returns false'. Refute it at one input. -/
def fnReadPlainReuseIsFreshWrong : ChangeSpec := { name := "fnReadPlainReuseIsFresh", fn := fun _ => fun
  | [d1, d2] => { results := [.lit (.bool false)], args := [d1, d2] }
  | _ => none }
def FnReadPlainReuseIsFreshWrongFalsely : Prop := fnReadPlainReuseIsFreshRow.holds Try.pinned (OpenSpec.ofChange fnReadPlainReuseIsFreshWrong)

end Rows
end Go.Proofs.Qxb6000782a
