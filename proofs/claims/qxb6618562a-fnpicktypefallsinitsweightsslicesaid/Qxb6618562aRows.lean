/-
  No cell of these rows narrows 'for every input' (looked for: loops, veiled, ifaces, maps, wideKeys, modest, calm, conditions, laid).
  DERIVED. THE GIVEN ROWS OF THIS SEAT. 4 by the template 'for every input the law returns true; each argument reads behind the call as it read before'; 0 by the template 'total and deterministic' (their statements: Qxb6618562aTotals.lean).
  GIVEN WITH THE SEED: the statements are not yours to turn. If you find one false, say at which input.
  Laid BY PROGRAM, IN A SANDBOX (cutbox-rows.mjs): the forced cells as the released guide's own fill.sh prints them over the translation c1484da646b6e63f… (all of the seat's roots in one cut). By AI agents, Wed Nov 11 2026. No macro, syntax, notation, axiom, sorry.
-/
import Derived.Test.Qxb6618562aChecked
import GoSem.Claim
import GoSem.ClaimJoined
import GoSem.ClaimMapViews
import Derived.JoinedTies
import Derived.KernelRfl
namespace Go.Proofs.Qxb6618562a
/- THE CELL 'sum', in the pinned program and in every row, IS THE sha256 OF THE DUMP (.gsa) THAT Qxb6618562aProg.lean LOADS. Nothing in Lean hashes anything: it is a label: what it is worth is what the hold of that sum in a sandbox is worth. -/
noncomputable def Try.pinned : Pinned := { name := "qxb6618562a", sum := "c1484da646b6e63f96db92c7f40a9be59233f69f9431891e360f5f1f7fdc05fb", checked := Try.checked }
namespace Rows
def none {H : Type} : Left H := { results := [], args := [] }

/-- 'zzlaws_internal_sim_b1.FnTxnEstimateIsProportionalToCount': WHATEVER THE INPUT: true; the input reads as it did. -/
def fnTxnEstimateIsProportionalToCountSpec : ChangeSpec := { name := "fnTxnEstimateIsProportionalToCount", fn := fun _ => fun
  | [d1, d2, d3] => { results := [.lit (.bool true)], args := [d1, d2, d3] }
  | _ => none }
def fnTxnEstimateIsProportionalToCountRow : OpenClaim := { program := "qxb6618562a", sum := "c1484da646b6e63f96db92c7f40a9be59233f69f9431891e360f5f1f7fdc05fb", func := "example.com/interleave/interleave/zzlaws_internal_sim_b1.FnTxnEstimateIsProportionalToCount", spec := "fnTxnEstimateIsProportionalToCount", apart := false }
def FnTxnEstimateIsProportionalToCountSaid : Prop := fnTxnEstimateIsProportionalToCountRow.holds Try.pinned (OpenSpec.ofChange fnTxnEstimateIsProportionalToCountSpec)

/-- ITS FALSE NEIGHBOUR: 'it returns false'. Refute it at one input. -/
def fnTxnEstimateIsProportionalToCountWrong : ChangeSpec := { name := "fnTxnEstimateIsProportionalToCount", fn := fun _ => fun
  | [d1, d2, d3] => { results := [.lit (.bool false)], args := [d1, d2, d3] }
  | _ => none }
def FnTxnEstimateIsProportionalToCountWrongFalsely : Prop := fnTxnEstimateIsProportionalToCountRow.holds Try.pinned (OpenSpec.ofChange fnTxnEstimateIsProportionalToCountWrong)

/-- 'zzlaws_internal_sim_b1.FnTxnEstimateGrowsWithCountAndCosts': WHATEVER THE INPUT: true; the input reads as it did. -/
def fnTxnEstimateGrowsWithCountAndCostsSpec : ChangeSpec := { name := "fnTxnEstimateGrowsWithCountAndCosts", fn := fun _ => fun
  | [d1, d2, d3, d4, d5, d6] => { results := [.lit (.bool true)], args := [d1, d2, d3, d4, d5, d6] }
  | _ => none }
def fnTxnEstimateGrowsWithCountAndCostsRow : OpenClaim := { program := "qxb6618562a", sum := "c1484da646b6e63f96db92c7f40a9be59233f69f9431891e360f5f1f7fdc05fb", func := "example.com/interleave/interleave/zzlaws_internal_sim_b1.FnTxnEstimateGrowsWithCountAndCosts", spec := "fnTxnEstimateGrowsWithCountAndCosts", apart := false }
def FnTxnEstimateGrowsWithCountAndCostsSaid : Prop := fnTxnEstimateGrowsWithCountAndCostsRow.holds Try.pinned (OpenSpec.ofChange fnTxnEstimateGrowsWithCountAndCostsSpec)

/-- ITS FALSE NEIGHBOUR: 'it returns false'. Refute it at one input. -/
def fnTxnEstimateGrowsWithCountAndCostsWrong : ChangeSpec := { name := "fnTxnEstimateGrowsWithCountAndCosts", fn := fun _ => fun
  | [d1, d2, d3, d4, d5, d6] => { results := [.lit (.bool false)], args := [d1, d2, d3, d4, d5, d6] }
  | _ => none }
def FnTxnEstimateGrowsWithCountAndCostsWrongFalsely : Prop := fnTxnEstimateGrowsWithCountAndCostsRow.holds Try.pinned (OpenSpec.ofChange fnTxnEstimateGrowsWithCountAndCostsWrong)

/-- 'zzlaws_internal_sim_b1.FnPickTypeFallsInItsWeightsSlice': WHATEVER THE INPUT: true; the input reads as it did. -/
def fnPickTypeFallsInItsWeightsSliceSpec : ChangeSpec := { name := "fnPickTypeFallsInItsWeightsSlice", fn := fun _ => fun
  | [d1, d2, d3] => { results := [.lit (.bool true)], args := [d1, d2, d3] }
  | _ => none }
def fnPickTypeFallsInItsWeightsSliceRow : OpenClaim := { program := "qxb6618562a", sum := "c1484da646b6e63f96db92c7f40a9be59233f69f9431891e360f5f1f7fdc05fb", func := "example.com/interleave/interleave/zzlaws_internal_sim_b1.FnPickTypeFallsInItsWeightsSlice", spec := "fnPickTypeFallsInItsWeightsSlice", unfollowed := true, recurses := true, apart := false }
def FnPickTypeFallsInItsWeightsSliceSaid : Prop := fnPickTypeFallsInItsWeightsSliceRow.holds Try.pinned (OpenSpec.ofChange fnPickTypeFallsInItsWeightsSliceSpec)

/-- ITS FALSE NEIGHBOUR: 'it returns false'. Refute it at one input. -/
def fnPickTypeFallsInItsWeightsSliceWrong : ChangeSpec := { name := "fnPickTypeFallsInItsWeightsSlice", fn := fun _ => fun
  | [d1, d2, d3] => { results := [.lit (.bool false)], args := [d1, d2, d3] }
  | _ => none }
def FnPickTypeFallsInItsWeightsSliceWrongFalsely : Prop := fnPickTypeFallsInItsWeightsSliceRow.holds Try.pinned (OpenSpec.ofChange fnPickTypeFallsInItsWeightsSliceWrong)

/-- 'zzlaws_internal_sim_b1.FnPickTypeIgnoresZeroWeightTypes': WHATEVER THE INPUT: true; the input reads as it did. -/
def fnPickTypeIgnoresZeroWeightTypesSpec : ChangeSpec := { name := "fnPickTypeIgnoresZeroWeightTypes", fn := fun _ => fun
  | [d1, d2, d3, d4] => { results := [.lit (.bool true)], args := [d1, d2, d3, d4] }
  | _ => none }
def fnPickTypeIgnoresZeroWeightTypesRow : OpenClaim := { program := "qxb6618562a", sum := "c1484da646b6e63f96db92c7f40a9be59233f69f9431891e360f5f1f7fdc05fb", func := "example.com/interleave/interleave/zzlaws_internal_sim_b1.FnPickTypeIgnoresZeroWeightTypes", spec := "fnPickTypeIgnoresZeroWeightTypes", unfollowed := true, recurses := true, apart := false }
def FnPickTypeIgnoresZeroWeightTypesSaid : Prop := fnPickTypeIgnoresZeroWeightTypesRow.holds Try.pinned (OpenSpec.ofChange fnPickTypeIgnoresZeroWeightTypesSpec)

/-- ITS FALSE NEIGHBOUR: 'it returns false'. Refute it at one input. -/
def fnPickTypeIgnoresZeroWeightTypesWrong : ChangeSpec := { name := "fnPickTypeIgnoresZeroWeightTypes", fn := fun _ => fun
  | [d1, d2, d3, d4] => { results := [.lit (.bool false)], args := [d1, d2, d3, d4] }
  | _ => none }
def FnPickTypeIgnoresZeroWeightTypesWrongFalsely : Prop := fnPickTypeIgnoresZeroWeightTypesRow.holds Try.pinned (OpenSpec.ofChange fnPickTypeIgnoresZeroWeightTypesWrong)

end Rows
end Go.Proofs.Qxb6618562a
