/-
  No cell of these rows narrows 'for every input' (looked for: loops, veiled, ifaces, maps, wideKeys, modest, calm, conditions, laid).
  DERIVED. THE GIVEN ROWS OF THIS SEAT. 5 by the template 'for every input the law returns true; each argument reads behind the call as it read before'; 0 by the template 'total and deterministic' (their statements: Qxb6603460aTotals.lean).
  GIVEN WITH THE SEED: the statements are not yours to turn. If you find one false, say at which input.
  Laid BY PROGRAM, IN A SANDBOX (cutbox-rows.mjs): the forced cells as the released guide's own fill.sh prints them over the translation fb90d97621999bf5… (all of the seat's roots in one cut). By AI agents, Wed Nov 11 2026. No macro, syntax, notation, axiom, sorry.
-/
import Derived.Test.Qxb6603460aChecked
import GoSem.Claim
import GoSem.ClaimJoined
import GoSem.ClaimMapViews
import Derived.JoinedTies
import Derived.KernelRfl
namespace Go.Proofs.Qxb6603460a
/- THE CELL 'sum', in the pinned program and in every row, IS THE sha256 OF THE DUMP (.gsa) THAT Qxb6603460aProg.lean LOADS. Nothing in Lean hashes anything: it is a label: what it is worth is what the hold of that sum in a sandbox is worth. -/
noncomputable def Try.pinned : Pinned := { name := "qxb6603460a", sum := "fb90d97621999bf55328283119ac5bb3d55fe128997e8a836bed0430a9676834", checked := Try.checked }
namespace Rows
def none {H : Type} : Left H := { results := [], args := [] }

/-- 'zzlaws_internal_model_b1.FnDenseLevelsSplitAtLevel': WHATEVER THE INPUT: true; the input reads as it did. -/
def fnDenseLevelsSplitAtLevelSpec : ChangeSpec := { name := "fnDenseLevelsSplitAtLevel", fn := fun _ => fun
  | [d1, d2, d3, d4] => { results := [.lit (.bool true)], args := [d1, d2, d3, d4] }
  | _ => none }
def fnDenseLevelsSplitAtLevelRow : OpenClaim := { program := "qxb6603460a", sum := "fb90d97621999bf55328283119ac5bb3d55fe128997e8a836bed0430a9676834", func := "example.com/nuthatch/nuthatch/zzlaws_internal_model_b1.FnDenseLevelsSplitAtLevel", spec := "fnDenseLevelsSplitAtLevel", apart := false }
def FnDenseLevelsSplitAtLevelSaid : Prop := fnDenseLevelsSplitAtLevelRow.holds Try.pinned (OpenSpec.ofChange fnDenseLevelsSplitAtLevelSpec)

/-- ITS FALSE NEIGHBOUR: 'it returns false'. Refute it at one input. -/
def fnDenseLevelsSplitAtLevelWrong : ChangeSpec := { name := "fnDenseLevelsSplitAtLevel", fn := fun _ => fun
  | [d1, d2, d3, d4] => { results := [.lit (.bool false)], args := [d1, d2, d3, d4] }
  | _ => none }
def FnDenseLevelsSplitAtLevelWrongFalsely : Prop := fnDenseLevelsSplitAtLevelRow.holds Try.pinned (OpenSpec.ofChange fnDenseLevelsSplitAtLevelWrong)

/-- 'zzlaws_internal_model_b1.FnDenseLevelsZeroWeightsGiveBiases': WHATEVER THE INPUT: true; the input reads as it did. -/
def fnDenseLevelsZeroWeightsGiveBiasesSpec : ChangeSpec := { name := "fnDenseLevelsZeroWeightsGiveBiases", fn := fun _ => fun
  | [d1, d2, d3] => { results := [.lit (.bool true)], args := [d1, d2, d3] }
  | _ => none }
def fnDenseLevelsZeroWeightsGiveBiasesRow : OpenClaim := { program := "qxb6603460a", sum := "fb90d97621999bf55328283119ac5bb3d55fe128997e8a836bed0430a9676834", func := "example.com/nuthatch/nuthatch/zzlaws_internal_model_b1.FnDenseLevelsZeroWeightsGiveBiases", spec := "fnDenseLevelsZeroWeightsGiveBiases", apart := false }
def FnDenseLevelsZeroWeightsGiveBiasesSaid : Prop := fnDenseLevelsZeroWeightsGiveBiasesRow.holds Try.pinned (OpenSpec.ofChange fnDenseLevelsZeroWeightsGiveBiasesSpec)

/-- ITS FALSE NEIGHBOUR: 'it returns false'. Refute it at one input. -/
def fnDenseLevelsZeroWeightsGiveBiasesWrong : ChangeSpec := { name := "fnDenseLevelsZeroWeightsGiveBiases", fn := fun _ => fun
  | [d1, d2, d3] => { results := [.lit (.bool false)], args := [d1, d2, d3] }
  | _ => none }
def FnDenseLevelsZeroWeightsGiveBiasesWrongFalsely : Prop := fnDenseLevelsZeroWeightsGiveBiasesRow.holds Try.pinned (OpenSpec.ofChange fnDenseLevelsZeroWeightsGiveBiasesWrong)

/-- 'zzlaws_internal_model_b1.FnDenseLevelsOneSlotReachesOnlyItsUnit': WHATEVER THE INPUT: true; the input reads as it did. -/
def fnDenseLevelsOneSlotReachesOnlyItsUnitSpec : ChangeSpec := { name := "fnDenseLevelsOneSlotReachesOnlyItsUnit", fn := fun _ => fun
  | [d1, d2, d3, d4, d5] => { results := [.lit (.bool true)], args := [d1, d2, d3, d4, d5] }
  | _ => none }
def fnDenseLevelsOneSlotReachesOnlyItsUnitRow : OpenClaim := { program := "qxb6603460a", sum := "fb90d97621999bf55328283119ac5bb3d55fe128997e8a836bed0430a9676834", func := "example.com/nuthatch/nuthatch/zzlaws_internal_model_b1.FnDenseLevelsOneSlotReachesOnlyItsUnit", spec := "fnDenseLevelsOneSlotReachesOnlyItsUnit", apart := false }
def FnDenseLevelsOneSlotReachesOnlyItsUnitSaid : Prop := fnDenseLevelsOneSlotReachesOnlyItsUnitRow.holds Try.pinned (OpenSpec.ofChange fnDenseLevelsOneSlotReachesOnlyItsUnitSpec)

/-- ITS FALSE NEIGHBOUR: 'it returns false'. Refute it at one input. -/
def fnDenseLevelsOneSlotReachesOnlyItsUnitWrong : ChangeSpec := { name := "fnDenseLevelsOneSlotReachesOnlyItsUnit", fn := fun _ => fun
  | [d1, d2, d3, d4, d5] => { results := [.lit (.bool false)], args := [d1, d2, d3, d4, d5] }
  | _ => none }
def FnDenseLevelsOneSlotReachesOnlyItsUnitWrongFalsely : Prop := fnDenseLevelsOneSlotReachesOnlyItsUnitRow.holds Try.pinned (OpenSpec.ofChange fnDenseLevelsOneSlotReachesOnlyItsUnitWrong)

/-- 'zzlaws_internal_model_b1.FnDenseAddGradientWhole': WHATEVER THE INPUT: true; the input reads as it did. -/
def fnDenseAddGradientWholeSpec : ChangeSpec := { name := "fnDenseAddGradientWhole", fn := fun _ => fun
  | [d1, d2, d3, d4, d5] => { results := [.lit (.bool true)], args := [d1, d2, d3, d4, d5] }
  | _ => none }
def fnDenseAddGradientWholeRow : OpenClaim := { program := "qxb6603460a", sum := "fb90d97621999bf55328283119ac5bb3d55fe128997e8a836bed0430a9676834", func := "example.com/nuthatch/nuthatch/zzlaws_internal_model_b1.FnDenseAddGradientWhole", spec := "fnDenseAddGradientWhole", apart := false }
def FnDenseAddGradientWholeSaid : Prop := fnDenseAddGradientWholeRow.holds Try.pinned (OpenSpec.ofChange fnDenseAddGradientWholeSpec)

/-- ITS FALSE NEIGHBOUR: 'it returns false'. Refute it at one input. -/
def fnDenseAddGradientWholeWrong : ChangeSpec := { name := "fnDenseAddGradientWhole", fn := fun _ => fun
  | [d1, d2, d3, d4, d5] => { results := [.lit (.bool false)], args := [d1, d2, d3, d4, d5] }
  | _ => none }
def FnDenseAddGradientWholeWrongFalsely : Prop := fnDenseAddGradientWholeRow.holds Try.pinned (OpenSpec.ofChange fnDenseAddGradientWholeWrong)

/-- 'zzlaws_internal_model_b1.FnDenseAddGradientVanishesAtPerfectFit': WHATEVER THE INPUT: true; the input reads as it did. -/
def fnDenseAddGradientVanishesAtPerfectFitSpec : ChangeSpec := { name := "fnDenseAddGradientVanishesAtPerfectFit", fn := fun _ => fun
  | [d1, d2, d3, d4] => { results := [.lit (.bool true)], args := [d1, d2, d3, d4] }
  | _ => none }
def fnDenseAddGradientVanishesAtPerfectFitRow : OpenClaim := { program := "qxb6603460a", sum := "fb90d97621999bf55328283119ac5bb3d55fe128997e8a836bed0430a9676834", func := "example.com/nuthatch/nuthatch/zzlaws_internal_model_b1.FnDenseAddGradientVanishesAtPerfectFit", spec := "fnDenseAddGradientVanishesAtPerfectFit", apart := false }
def FnDenseAddGradientVanishesAtPerfectFitSaid : Prop := fnDenseAddGradientVanishesAtPerfectFitRow.holds Try.pinned (OpenSpec.ofChange fnDenseAddGradientVanishesAtPerfectFitSpec)

/-- ITS FALSE NEIGHBOUR: 'it returns false'. Refute it at one input. -/
def fnDenseAddGradientVanishesAtPerfectFitWrong : ChangeSpec := { name := "fnDenseAddGradientVanishesAtPerfectFit", fn := fun _ => fun
  | [d1, d2, d3, d4] => { results := [.lit (.bool false)], args := [d1, d2, d3, d4] }
  | _ => none }
def FnDenseAddGradientVanishesAtPerfectFitWrongFalsely : Prop := fnDenseAddGradientVanishesAtPerfectFitRow.holds Try.pinned (OpenSpec.ofChange fnDenseAddGradientVanishesAtPerfectFitWrong)

end Rows
end Go.Proofs.Qxb6603460a
