/-
  No cell of these rows narrows 'for every input' (looked for: loops, veiled, ifaces, maps, wideKeys, modest, calm, conditions, laid).
  DERIVED. THE GIVEN ROWS OF THIS SEAT. 7 by the template 'for every input the law returns true; each argument reads behind the call as it read before'; 0 by the template 'total and deterministic' (their statements: Qxb6001100aTotals.lean).
  GIVEN WITH THE SEED: the statements are not yours to turn. If you find one false, say at which input.
  Laid BY PROGRAM, IN A SANDBOX (cutbox-rows.mjs): the forced cells as the released guide's own fill.sh prints them over the translation 50db2a41c9913d83… (all of the seat's roots in one cut). By AI agents, Wed Nov 11 2026. No macro, syntax, notation, axiom, sorry.
-/
import Derived.Test.Qxb6001100aChecked
import GoSem.Claim
import GoSem.ClaimJoined
import GoSem.ClaimMapViews
import Derived.JoinedTies
import Derived.KernelRfl
namespace Go.Proofs.Qxb6001100a
/- THE CELL 'sum', in the pinned program and in every row, IS THE sha256 OF THE DUMP (.gsa) THAT Qxb6001100aProg.lean LOADS. Nothing in Lean hashes anything: it is a label: what it is worth is what the hold of that sum in a sandbox is worth. -/
noncomputable def Try.pinned : Pinned := { name := "qxb6001100a", sum := "50db2a41c9913d8354e7df34ddf649cba51bc3a0aa688a950e1e80a36f0fe1bc", checked := Try.checked }
namespace Rows
def none {H : Type} : Left H := { results := [], args := [] }

/-- 'zzlaws_internal_bookgen_b1.FnNavOfDayAdditiveAndOrderFree': WHATEVER THE INPUT: true; the input reads as it did. -/
def fnNavOfDayAdditiveAndOrderFreeSpec : ChangeSpec := { name := "fnNavOfDayAdditiveAndOrderFree", fn := fun _ => fun
  | [d1, d2, d3, d4, d5, d6, d7, d8, d9] => { results := [.lit (.bool true)], args := [d1, d2, d3, d4, d5, d6, d7, d8, d9] }
  | _ => none }
def fnNavOfDayAdditiveAndOrderFreeRow : OpenClaim := { program := "qxb6001100a", sum := "50db2a41c9913d8354e7df34ddf649cba51bc3a0aa688a950e1e80a36f0fe1bc", func := "example.com/custos/custos/zzlaws_internal_bookgen_b1.FnNavOfDayAdditiveAndOrderFree", spec := "fnNavOfDayAdditiveAndOrderFree", apart := false }
def FnNavOfDayAdditiveAndOrderFreeSaid : Prop := fnNavOfDayAdditiveAndOrderFreeRow.holds Try.pinned (OpenSpec.ofChange fnNavOfDayAdditiveAndOrderFreeSpec)

/-- ITS FALSE NEIGHBOUR: 'it returns false'. Refute it at one input. -/
def fnNavOfDayAdditiveAndOrderFreeWrong : ChangeSpec := { name := "fnNavOfDayAdditiveAndOrderFree", fn := fun _ => fun
  | [d1, d2, d3, d4, d5, d6, d7, d8, d9] => { results := [.lit (.bool false)], args := [d1, d2, d3, d4, d5, d6, d7, d8, d9] }
  | _ => none }
def FnNavOfDayAdditiveAndOrderFreeWrongFalsely : Prop := fnNavOfDayAdditiveAndOrderFreeRow.holds Try.pinned (OpenSpec.ofChange fnNavOfDayAdditiveAndOrderFreeWrong)

/-- 'zzlaws_internal_bookgen_b1.FnNavOfDayFeesFollowTheRates': WHATEVER THE INPUT: true; the input reads as it did. -/
def fnNavOfDayFeesFollowTheRatesSpec : ChangeSpec := { name := "fnNavOfDayFeesFollowTheRates", fn := fun _ => fun
  | [d1, d2] => { results := [.lit (.bool true)], args := [d1, d2] }
  | _ => none }
def fnNavOfDayFeesFollowTheRatesRow : OpenClaim := { program := "qxb6001100a", sum := "50db2a41c9913d8354e7df34ddf649cba51bc3a0aa688a950e1e80a36f0fe1bc", func := "example.com/custos/custos/zzlaws_internal_bookgen_b1.FnNavOfDayFeesFollowTheRates", spec := "fnNavOfDayFeesFollowTheRates", apart := false }
def FnNavOfDayFeesFollowTheRatesSaid : Prop := fnNavOfDayFeesFollowTheRatesRow.holds Try.pinned (OpenSpec.ofChange fnNavOfDayFeesFollowTheRatesSpec)

/-- ITS FALSE NEIGHBOUR: 'it returns false'. Refute it at one input. -/
def fnNavOfDayFeesFollowTheRatesWrong : ChangeSpec := { name := "fnNavOfDayFeesFollowTheRates", fn := fun _ => fun
  | [d1, d2] => { results := [.lit (.bool false)], args := [d1, d2] }
  | _ => none }
def FnNavOfDayFeesFollowTheRatesWrongFalsely : Prop := fnNavOfDayFeesFollowTheRatesRow.holds Try.pinned (OpenSpec.ofChange fnNavOfDayFeesFollowTheRatesWrong)

/-- 'zzlaws_internal_bookgen_b1.FnNavOfDayFeesMonotone': WHATEVER THE INPUT: true; the input reads as it did. -/
def fnNavOfDayFeesMonotoneSpec : ChangeSpec := { name := "fnNavOfDayFeesMonotone", fn := fun _ => fun
  | [d1, d2, d3, d4] => { results := [.lit (.bool true)], args := [d1, d2, d3, d4] }
  | _ => none }
def fnNavOfDayFeesMonotoneRow : OpenClaim := { program := "qxb6001100a", sum := "50db2a41c9913d8354e7df34ddf649cba51bc3a0aa688a950e1e80a36f0fe1bc", func := "example.com/custos/custos/zzlaws_internal_bookgen_b1.FnNavOfDayFeesMonotone", spec := "fnNavOfDayFeesMonotone", apart := false }
def FnNavOfDayFeesMonotoneSaid : Prop := fnNavOfDayFeesMonotoneRow.holds Try.pinned (OpenSpec.ofChange fnNavOfDayFeesMonotoneSpec)

/-- ITS FALSE NEIGHBOUR: 'it returns false'. Refute it at one input. -/
def fnNavOfDayFeesMonotoneWrong : ChangeSpec := { name := "fnNavOfDayFeesMonotone", fn := fun _ => fun
  | [d1, d2, d3, d4] => { results := [.lit (.bool false)], args := [d1, d2, d3, d4] }
  | _ => none }
def FnNavOfDayFeesMonotoneWrongFalsely : Prop := fnNavOfDayFeesMonotoneRow.holds Try.pinned (OpenSpec.ofChange fnNavOfDayFeesMonotoneWrong)

/-- 'zzlaws_internal_bookgen_b1.FnMisreportReadsOnlyItsClass': WHATEVER THE INPUT: true; the input reads as it did. -/
def fnMisreportReadsOnlyItsClassSpec : ChangeSpec := { name := "fnMisreportReadsOnlyItsClass", fn := fun _ => fun
  | [d1, d2, d3, d4, d5, d6] => { results := [.lit (.bool true)], args := [d1, d2, d3, d4, d5, d6] }
  | _ => none }
def fnMisreportReadsOnlyItsClassRow : OpenClaim := { program := "qxb6001100a", sum := "50db2a41c9913d8354e7df34ddf649cba51bc3a0aa688a950e1e80a36f0fe1bc", func := "example.com/custos/custos/zzlaws_internal_bookgen_b1.FnMisreportReadsOnlyItsClass", spec := "fnMisreportReadsOnlyItsClass", apart := false }
def FnMisreportReadsOnlyItsClassSaid : Prop := fnMisreportReadsOnlyItsClassRow.holds Try.pinned (OpenSpec.ofChange fnMisreportReadsOnlyItsClassSpec)

/-- ITS FALSE NEIGHBOUR: 'it returns false'. Refute it at one input. -/
def fnMisreportReadsOnlyItsClassWrong : ChangeSpec := { name := "fnMisreportReadsOnlyItsClass", fn := fun _ => fun
  | [d1, d2, d3, d4, d5, d6] => { results := [.lit (.bool false)], args := [d1, d2, d3, d4, d5, d6] }
  | _ => none }
def FnMisreportReadsOnlyItsClassWrongFalsely : Prop := fnMisreportReadsOnlyItsClassRow.holds Try.pinned (OpenSpec.ofChange fnMisreportReadsOnlyItsClassWrong)

/-- 'zzlaws_internal_bookgen_b1.FnCompositionAccountsForWholeFund': WHATEVER THE INPUT: true; the input reads as it did. -/
def fnCompositionAccountsForWholeFundSpec : ChangeSpec := { name := "fnCompositionAccountsForWholeFund", fn := fun _ => fun
  | [d] => { results := [.lit (.bool true)], args := [d] }
  | _ => none }
def fnCompositionAccountsForWholeFundRow : OpenClaim := { program := "qxb6001100a", sum := "50db2a41c9913d8354e7df34ddf649cba51bc3a0aa688a950e1e80a36f0fe1bc", func := "example.com/custos/custos/zzlaws_internal_bookgen_b1.FnCompositionAccountsForWholeFund", spec := "fnCompositionAccountsForWholeFund", apart := false }
def FnCompositionAccountsForWholeFundSaid : Prop := fnCompositionAccountsForWholeFundRow.holds Try.pinned (OpenSpec.ofChange fnCompositionAccountsForWholeFundSpec)

/-- ITS FALSE NEIGHBOUR: 'it returns false'. Refute it at one input. -/
def fnCompositionAccountsForWholeFundWrong : ChangeSpec := { name := "fnCompositionAccountsForWholeFund", fn := fun _ => fun
  | [d] => { results := [.lit (.bool false)], args := [d] }
  | _ => none }
def FnCompositionAccountsForWholeFundWrongFalsely : Prop := fnCompositionAccountsForWholeFundRow.holds Try.pinned (OpenSpec.ofChange fnCompositionAccountsForWholeFundWrong)

/-- 'zzlaws_internal_bookgen_b1.FnCompositionBreachesAreDistinct': WHATEVER THE INPUT: true; the input reads as it did. -/
def fnCompositionBreachesAreDistinctSpec : ChangeSpec := { name := "fnCompositionBreachesAreDistinct", fn := fun _ => fun
  | [d] => { results := [.lit (.bool true)], args := [d] }
  | _ => none }
def fnCompositionBreachesAreDistinctRow : OpenClaim := { program := "qxb6001100a", sum := "50db2a41c9913d8354e7df34ddf649cba51bc3a0aa688a950e1e80a36f0fe1bc", func := "example.com/custos/custos/zzlaws_internal_bookgen_b1.FnCompositionBreachesAreDistinct", spec := "fnCompositionBreachesAreDistinct", apart := false }
def FnCompositionBreachesAreDistinctSaid : Prop := fnCompositionBreachesAreDistinctRow.holds Try.pinned (OpenSpec.ofChange fnCompositionBreachesAreDistinctSpec)

/-- ITS FALSE NEIGHBOUR: 'it returns false'. Refute it at one input. -/
def fnCompositionBreachesAreDistinctWrong : ChangeSpec := { name := "fnCompositionBreachesAreDistinct", fn := fun _ => fun
  | [d] => { results := [.lit (.bool false)], args := [d] }
  | _ => none }
def FnCompositionBreachesAreDistinctWrongFalsely : Prop := fnCompositionBreachesAreDistinctRow.holds Try.pinned (OpenSpec.ofChange fnCompositionBreachesAreDistinctWrong)

/-- 'zzlaws_internal_bookgen_b1.FnMisreportLevelsOrdered': WHATEVER THE INPUT: true; the input reads as it did. -/
def fnMisreportLevelsOrderedSpec : ChangeSpec := { name := "fnMisreportLevelsOrdered", fn := fun _ => fun
  | [d1, d2] => { results := [.lit (.bool true)], args := [d1, d2] }
  | _ => none }
def fnMisreportLevelsOrderedRow : OpenClaim := { program := "qxb6001100a", sum := "50db2a41c9913d8354e7df34ddf649cba51bc3a0aa688a950e1e80a36f0fe1bc", func := "example.com/custos/custos/zzlaws_internal_bookgen_b1.FnMisreportLevelsOrdered", spec := "fnMisreportLevelsOrdered", apart := false }
def FnMisreportLevelsOrderedSaid : Prop := fnMisreportLevelsOrderedRow.holds Try.pinned (OpenSpec.ofChange fnMisreportLevelsOrderedSpec)

/-- ITS FALSE NEIGHBOUR: 'it returns false'. Refute it at one input. -/
def fnMisreportLevelsOrderedWrong : ChangeSpec := { name := "fnMisreportLevelsOrdered", fn := fun _ => fun
  | [d1, d2] => { results := [.lit (.bool false)], args := [d1, d2] }
  | _ => none }
def FnMisreportLevelsOrderedWrongFalsely : Prop := fnMisreportLevelsOrderedRow.holds Try.pinned (OpenSpec.ofChange fnMisreportLevelsOrderedWrong)

end Rows
end Go.Proofs.Qxb6001100a
