/-
  No cell of these rows narrows 'for every input' (looked for: loops, veiled, ifaces, maps, wideKeys, modest, calm, conditions, laid).
  DERIVED. THE GIVEN ROWS OF THIS SEAT. 8 by the template 'for every input the law returns true; each argument reads behind the call as it read before'; 0 by the template 'total and deterministic' (their statements: YtknilfihibmgdaaTotals.lean).
  GIVEN WITH THE SEED: the statements are not yours to turn. If you find one false, say at which input.
  Laid BY PROGRAM, IN A SANDBOX (cutbox-rows.mjs): the forced cells as the released guide's own fill.sh prints them over the translation 0d3c9fca31ada4a6… (all of the seat's roots in one cut). By AI agents, Wed Nov 11 2026. No macro, syntax, notation, axiom, sorry.
-/
import Derived.Test.YtknilfihibmgdaaChecked
import GoSem.Claim
import GoSem.ClaimJoined
import GoSem.ClaimMapViews
import Derived.JoinedTies
import Derived.KernelRfl
namespace Go.Proofs.Ytknilfihibmgdaa
/- THE CELL 'sum', in the pinned program and in every row, IS THE sha256 OF THE DUMP (.gsa) THAT YtknilfihibmgdaaProg.lean LOADS. Nothing in Lean hashes anything: it is a label: what it is worth is what the hold of that sum in a sandbox is worth. -/
noncomputable def Try.pinned : Pinned := { name := "ytknilfihibmgdaa", sum := "0d3c9fca31ada4a6c1cac263137ab9328b598e6e7819a582924d3561a5ba303f", checked := Try.checked }
namespace Rows
def none {H : Type} : Left H := { results := [], args := [] }

/-- 'n010_74.FnWhileClauseEndIsFourSingleSteps': WHATEVER THE INPUT: true; the input reads as it did. -/
def fnWhileClauseEndIsFourSingleStepsSpec : ChangeSpec := { name := "fnWhileClauseEndIsFourSingleSteps", fn := fun _ => fun
  | [d1, d2] => { results := [.lit (.bool true)], args := [d1, d2] }
  | _ => none }
def fnWhileClauseEndIsFourSingleStepsRow : OpenClaim := { program := "ytknilfihibmgdaa", sum := "0d3c9fca31ada4a6c1cac263137ab9328b598e6e7819a582924d3561a5ba303f", func := "mvdan.cc/sh/v3/n010_74.FnWhileClauseEndIsFourSingleSteps", spec := "fnWhileClauseEndIsFourSingleSteps", apart := false }
def FnWhileClauseEndIsFourSingleStepsSaid : Prop := fnWhileClauseEndIsFourSingleStepsRow.holds Try.pinned (OpenSpec.ofChange fnWhileClauseEndIsFourSingleStepsSpec)

/-- ITS FALSE NEIGHBOUR: 'it returns false'. Refute it at one input. -/
def fnWhileClauseEndIsFourSingleStepsWrong : ChangeSpec := { name := "fnWhileClauseEndIsFourSingleSteps", fn := fun _ => fun
  | [d1, d2] => { results := [.lit (.bool false)], args := [d1, d2] }
  | _ => none }
def FnWhileClauseEndIsFourSingleStepsWrongFalsely : Prop := fnWhileClauseEndIsFourSingleStepsRow.holds Try.pinned (OpenSpec.ofChange fnWhileClauseEndIsFourSingleStepsWrong)

/-- 'n010_48.FnFuncEnvironGetEmptyValueIsUnset': WHATEVER THE INPUT: true; the input reads as it did. -/
def fnFuncEnvironGetEmptyValueIsUnsetSpec : ChangeSpec := { name := "fnFuncEnvironGetEmptyValueIsUnset", fn := fun _ => fun
  | [d] => { results := [.lit (.bool true)], args := [d] }
  | _ => none }
def fnFuncEnvironGetEmptyValueIsUnsetRow : OpenClaim := { program := "ytknilfihibmgdaa", sum := "0d3c9fca31ada4a6c1cac263137ab9328b598e6e7819a582924d3561a5ba303f", func := "mvdan.cc/sh/v3/n010_48.FnFuncEnvironGetEmptyValueIsUnset", spec := "fnFuncEnvironGetEmptyValueIsUnset", unfollowed := true, recurses := true, apart := false }
def FnFuncEnvironGetEmptyValueIsUnsetSaid : Prop := fnFuncEnvironGetEmptyValueIsUnsetRow.holds Try.pinned (OpenSpec.ofChange fnFuncEnvironGetEmptyValueIsUnsetSpec)

/-- ITS FALSE NEIGHBOUR: 'it returns false'. Refute it at one input. -/
def fnFuncEnvironGetEmptyValueIsUnsetWrong : ChangeSpec := { name := "fnFuncEnvironGetEmptyValueIsUnset", fn := fun _ => fun
  | [d] => { results := [.lit (.bool false)], args := [d] }
  | _ => none }
def FnFuncEnvironGetEmptyValueIsUnsetWrongFalsely : Prop := fnFuncEnvironGetEmptyValueIsUnsetRow.holds Try.pinned (OpenSpec.ofChange fnFuncEnvironGetEmptyValueIsUnsetWrong)

/-- 'n010_75.FnIncompleteFalseAfterReset': WHATEVER THE INPUT: true; the input reads as it did. -/
def fnIncompleteFalseAfterResetSpec : ChangeSpec := { name := "fnIncompleteFalseAfterReset", fn := fun _ => fun
  | [d1, d2] => { results := [.lit (.bool true)], args := [d1, d2] }
  | _ => none }
def fnIncompleteFalseAfterResetRow : OpenClaim := { program := "ytknilfihibmgdaa", sum := "0d3c9fca31ada4a6c1cac263137ab9328b598e6e7819a582924d3561a5ba303f", func := "mvdan.cc/sh/v3/n010_75.FnIncompleteFalseAfterReset", spec := "fnIncompleteFalseAfterReset", apart := false }
def FnIncompleteFalseAfterResetSaid : Prop := fnIncompleteFalseAfterResetRow.holds Try.pinned (OpenSpec.ofChange fnIncompleteFalseAfterResetSpec)

/-- ITS FALSE NEIGHBOUR: 'it returns false'. Refute it at one input. -/
def fnIncompleteFalseAfterResetWrong : ChangeSpec := { name := "fnIncompleteFalseAfterReset", fn := fun _ => fun
  | [d1, d2] => { results := [.lit (.bool false)], args := [d1, d2] }
  | _ => none }
def FnIncompleteFalseAfterResetWrongFalsely : Prop := fnIncompleteFalseAfterResetRow.holds Try.pinned (OpenSpec.ofChange fnIncompleteFalseAfterResetWrong)

/-- 'n010_5.FnCanonicalIndexesMatchesStepModel': WHATEVER THE INPUT: true; the input reads as it did. -/
def fnCanonicalIndexesMatchesStepModelSpec : ChangeSpec := { name := "fnCanonicalIndexesMatchesStepModel", fn := fun _ => fun
  | [d] => { results := [.lit (.bool true)], args := [d] }
  | _ => none }
def fnCanonicalIndexesMatchesStepModelRow : OpenClaim := { program := "ytknilfihibmgdaa", sum := "0d3c9fca31ada4a6c1cac263137ab9328b598e6e7819a582924d3561a5ba303f", func := "mvdan.cc/sh/v3/n010_5.FnCanonicalIndexesMatchesStepModel", spec := "fnCanonicalIndexesMatchesStepModel", apart := false }
def FnCanonicalIndexesMatchesStepModelSaid : Prop := fnCanonicalIndexesMatchesStepModelRow.holds Try.pinned (OpenSpec.ofChange fnCanonicalIndexesMatchesStepModelSpec)

/-- ITS FALSE NEIGHBOUR: 'it returns false'. Refute it at one input. -/
def fnCanonicalIndexesMatchesStepModelWrong : ChangeSpec := { name := "fnCanonicalIndexesMatchesStepModel", fn := fun _ => fun
  | [d] => { results := [.lit (.bool false)], args := [d] }
  | _ => none }
def FnCanonicalIndexesMatchesStepModelWrongFalsely : Prop := fnCanonicalIndexesMatchesStepModelRow.holds Try.pinned (OpenSpec.ofChange fnCanonicalIndexesMatchesStepModelWrong)

/-- 'n010_5.FnCanonicalIndexesDenseAndOnePerturbation': WHATEVER THE INPUT: true; the input reads as it did. -/
def fnCanonicalIndexesDenseAndOnePerturbationSpec : ChangeSpec := { name := "fnCanonicalIndexesDenseAndOnePerturbation", fn := fun _ => fun
  | [d1, d2, d3] => { results := [.lit (.bool true)], args := [d1, d2, d3] }
  | _ => none }
def fnCanonicalIndexesDenseAndOnePerturbationRow : OpenClaim := { program := "ytknilfihibmgdaa", sum := "0d3c9fca31ada4a6c1cac263137ab9328b598e6e7819a582924d3561a5ba303f", func := "mvdan.cc/sh/v3/n010_5.FnCanonicalIndexesDenseAndOnePerturbation", spec := "fnCanonicalIndexesDenseAndOnePerturbation", apart := false }
def FnCanonicalIndexesDenseAndOnePerturbationSaid : Prop := fnCanonicalIndexesDenseAndOnePerturbationRow.holds Try.pinned (OpenSpec.ofChange fnCanonicalIndexesDenseAndOnePerturbationSpec)

/-- ITS FALSE NEIGHBOUR: 'it returns false'. Refute it at one input. -/
def fnCanonicalIndexesDenseAndOnePerturbationWrong : ChangeSpec := { name := "fnCanonicalIndexesDenseAndOnePerturbation", fn := fun _ => fun
  | [d1, d2, d3] => { results := [.lit (.bool false)], args := [d1, d2, d3] }
  | _ => none }
def FnCanonicalIndexesDenseAndOnePerturbationWrongFalsely : Prop := fnCanonicalIndexesDenseAndOnePerturbationRow.holds Try.pinned (OpenSpec.ofChange fnCanonicalIndexesDenseAndOnePerturbationWrong)

/-- 'n010_74.FnWhileClauseSpanOrdered': WHATEVER THE INPUT: true; the input reads as it did. -/
def fnWhileClauseSpanOrderedSpec : ChangeSpec := { name := "fnWhileClauseSpanOrdered", fn := fun _ => fun
  | [d1, d2, d3, d4] => { results := [.lit (.bool true)], args := [d1, d2, d3, d4] }
  | _ => none }
def fnWhileClauseSpanOrderedRow : OpenClaim := { program := "ytknilfihibmgdaa", sum := "0d3c9fca31ada4a6c1cac263137ab9328b598e6e7819a582924d3561a5ba303f", func := "mvdan.cc/sh/v3/n010_74.FnWhileClauseSpanOrdered", spec := "fnWhileClauseSpanOrdered", apart := false }
def FnWhileClauseSpanOrderedSaid : Prop := fnWhileClauseSpanOrderedRow.holds Try.pinned (OpenSpec.ofChange fnWhileClauseSpanOrderedSpec)

/-- ITS FALSE NEIGHBOUR: 'it returns false'. Refute it at one input. -/
def fnWhileClauseSpanOrderedWrong : ChangeSpec := { name := "fnWhileClauseSpanOrdered", fn := fun _ => fun
  | [d1, d2, d3, d4] => { results := [.lit (.bool false)], args := [d1, d2, d3, d4] }
  | _ => none }
def FnWhileClauseSpanOrderedWrongFalsely : Prop := fnWhileClauseSpanOrderedRow.holds Try.pinned (OpenSpec.ofChange fnWhileClauseSpanOrderedWrong)

/-- 'n010_75.FnResetForgetsHistory': WHATEVER THE INPUT: true; the input reads as it did. -/
def fnResetForgetsHistorySpec : ChangeSpec := { name := "fnResetForgetsHistory", fn := fun _ => fun
  | [d1, d2, d3, d4, d5] => { results := [.lit (.bool true)], args := [d1, d2, d3, d4, d5] }
  | _ => none }
def fnResetForgetsHistoryRow : OpenClaim := { program := "ytknilfihibmgdaa", sum := "0d3c9fca31ada4a6c1cac263137ab9328b598e6e7819a582924d3561a5ba303f", func := "mvdan.cc/sh/v3/n010_75.FnResetForgetsHistory", spec := "fnResetForgetsHistory", apart := false }
def FnResetForgetsHistorySaid : Prop := fnResetForgetsHistoryRow.holds Try.pinned (OpenSpec.ofChange fnResetForgetsHistorySpec)

/-- ITS FALSE NEIGHBOUR: 'it returns false'. Refute it at one input. -/
def fnResetForgetsHistoryWrong : ChangeSpec := { name := "fnResetForgetsHistory", fn := fun _ => fun
  | [d1, d2, d3, d4, d5] => { results := [.lit (.bool false)], args := [d1, d2, d3, d4, d5] }
  | _ => none }
def FnResetForgetsHistoryWrongFalsely : Prop := fnResetForgetsHistoryRow.holds Try.pinned (OpenSpec.ofChange fnResetForgetsHistoryWrong)

/-- 'n010_75.FnLitBatchesNeverAlias': WHATEVER THE INPUT: true; the input reads as it did. -/
def fnLitBatchesNeverAliasSpec : ChangeSpec := { name := "fnLitBatchesNeverAlias", fn := fun _ => fun
  | [d] => { results := [.lit (.bool true)], args := [d] }
  | _ => none }
def fnLitBatchesNeverAliasRow : OpenClaim := { program := "ytknilfihibmgdaa", sum := "0d3c9fca31ada4a6c1cac263137ab9328b598e6e7819a582924d3561a5ba303f", func := "mvdan.cc/sh/v3/n010_75.FnLitBatchesNeverAlias", spec := "fnLitBatchesNeverAlias", apart := false }
def FnLitBatchesNeverAliasSaid : Prop := fnLitBatchesNeverAliasRow.holds Try.pinned (OpenSpec.ofChange fnLitBatchesNeverAliasSpec)

/-- ITS FALSE NEIGHBOUR: 'it returns false'. Refute it at one input. -/
def fnLitBatchesNeverAliasWrong : ChangeSpec := { name := "fnLitBatchesNeverAlias", fn := fun _ => fun
  | [d] => { results := [.lit (.bool false)], args := [d] }
  | _ => none }
def FnLitBatchesNeverAliasWrongFalsely : Prop := fnLitBatchesNeverAliasRow.holds Try.pinned (OpenSpec.ofChange fnLitBatchesNeverAliasWrong)

/- THE SECOND FORM. 'bulk': how many values and letters a reading holds, each counted each time it is reached (what is shared counts as often as it is met; a slice's spare places count too). A statement '..UptoSaid' is the law's where the arguments, and the package variables that the reading takes, are together of bulk at most 1048576: NARROWER than '..Said'. Prove '..Said' where nothing that the law and all that it calls make is longer than what came in: it says more and counts as full. Else prove '..UptoSaid'. A law counts once. -/
mutual
def uptoBulk {H : Type} : DataW H → Nat
  | .lit (.string bytes) => bytes.length + 1
  | .lit _ => 1
  | .nil => 1
  | .ptr d => uptoBulk d + 1
  | .slice elems spare => uptoBulkAll elems + uptoBulkAll spare + 1
  | .agg parts => uptoBulkAll parts + 1
  | .iface _ d => uptoBulk d + 1
  | .map entries => uptoBulkEntries entries + 1
  | .held _ => 1
def uptoBulkAll {H : Type} : List (DataW H) → Nat
  | [] => 0
  | d :: r => uptoBulk d + uptoBulkAll r
def uptoBulkEntries {H : Type} : List (Lit × DataW H) → Nat
  | [] => 0
  | x :: r => uptoBulkEntry x + uptoBulkEntries r
def uptoBulkEntry {H : Type} : Lit × DataW H → Nat
  | (.string bytes, d) => bytes.length + uptoBulk d + 1
  | (_, d) => uptoBulk d + 1
 end
def uptoSmall : (H : Type) → List (DataW H) → Bool := fun _ ds => decide (uptoBulkAll ds ≤ 1048576)
def OpenSpec.upto (s : _root_.Go.ChangeSpec) : _root_.Go.OpenSpec := { _root_.Go.OpenSpec.ofChange s with cond := some uptoSmall }

/-- 'n010_74.FnWhileClauseEndIsFourSingleSteps', WHERE WHAT IT READS IS OF BULK AT MOST 1048576: true; the input reads as it did. -/
def fnWhileClauseEndIsFourSingleStepsUptoRow : OpenClaim := { program := "ytknilfihibmgdaa", sum := "0d3c9fca31ada4a6c1cac263137ab9328b598e6e7819a582924d3561a5ba303f", func := "mvdan.cc/sh/v3/n010_74.FnWhileClauseEndIsFourSingleSteps", spec := "fnWhileClauseEndIsFourSingleSteps", apart := false, narrowed := true }
def FnWhileClauseEndIsFourSingleStepsUptoSaid : Prop := fnWhileClauseEndIsFourSingleStepsUptoRow.holds Try.pinned (OpenSpec.upto fnWhileClauseEndIsFourSingleStepsSpec)

/-- 'n010_48.FnFuncEnvironGetEmptyValueIsUnset', WHERE WHAT IT READS IS OF BULK AT MOST 1048576: true; the input reads as it did. -/
def fnFuncEnvironGetEmptyValueIsUnsetUptoRow : OpenClaim := { program := "ytknilfihibmgdaa", sum := "0d3c9fca31ada4a6c1cac263137ab9328b598e6e7819a582924d3561a5ba303f", func := "mvdan.cc/sh/v3/n010_48.FnFuncEnvironGetEmptyValueIsUnset", spec := "fnFuncEnvironGetEmptyValueIsUnset", unfollowed := true, recurses := true, apart := false, narrowed := true }
def FnFuncEnvironGetEmptyValueIsUnsetUptoSaid : Prop := fnFuncEnvironGetEmptyValueIsUnsetUptoRow.holds Try.pinned (OpenSpec.upto fnFuncEnvironGetEmptyValueIsUnsetSpec)

/-- 'n010_75.FnIncompleteFalseAfterReset', WHERE WHAT IT READS IS OF BULK AT MOST 1048576: true; the input reads as it did. -/
def fnIncompleteFalseAfterResetUptoRow : OpenClaim := { program := "ytknilfihibmgdaa", sum := "0d3c9fca31ada4a6c1cac263137ab9328b598e6e7819a582924d3561a5ba303f", func := "mvdan.cc/sh/v3/n010_75.FnIncompleteFalseAfterReset", spec := "fnIncompleteFalseAfterReset", apart := false, narrowed := true }
def FnIncompleteFalseAfterResetUptoSaid : Prop := fnIncompleteFalseAfterResetUptoRow.holds Try.pinned (OpenSpec.upto fnIncompleteFalseAfterResetSpec)

/-- 'n010_5.FnCanonicalIndexesMatchesStepModel', WHERE WHAT IT READS IS OF BULK AT MOST 1048576: true; the input reads as it did. -/
def fnCanonicalIndexesMatchesStepModelUptoRow : OpenClaim := { program := "ytknilfihibmgdaa", sum := "0d3c9fca31ada4a6c1cac263137ab9328b598e6e7819a582924d3561a5ba303f", func := "mvdan.cc/sh/v3/n010_5.FnCanonicalIndexesMatchesStepModel", spec := "fnCanonicalIndexesMatchesStepModel", apart := false, narrowed := true }
def FnCanonicalIndexesMatchesStepModelUptoSaid : Prop := fnCanonicalIndexesMatchesStepModelUptoRow.holds Try.pinned (OpenSpec.upto fnCanonicalIndexesMatchesStepModelSpec)

/-- 'n010_5.FnCanonicalIndexesDenseAndOnePerturbation', WHERE WHAT IT READS IS OF BULK AT MOST 1048576: true; the input reads as it did. -/
def fnCanonicalIndexesDenseAndOnePerturbationUptoRow : OpenClaim := { program := "ytknilfihibmgdaa", sum := "0d3c9fca31ada4a6c1cac263137ab9328b598e6e7819a582924d3561a5ba303f", func := "mvdan.cc/sh/v3/n010_5.FnCanonicalIndexesDenseAndOnePerturbation", spec := "fnCanonicalIndexesDenseAndOnePerturbation", apart := false, narrowed := true }
def FnCanonicalIndexesDenseAndOnePerturbationUptoSaid : Prop := fnCanonicalIndexesDenseAndOnePerturbationUptoRow.holds Try.pinned (OpenSpec.upto fnCanonicalIndexesDenseAndOnePerturbationSpec)

/-- 'n010_74.FnWhileClauseSpanOrdered', WHERE WHAT IT READS IS OF BULK AT MOST 1048576: true; the input reads as it did. -/
def fnWhileClauseSpanOrderedUptoRow : OpenClaim := { program := "ytknilfihibmgdaa", sum := "0d3c9fca31ada4a6c1cac263137ab9328b598e6e7819a582924d3561a5ba303f", func := "mvdan.cc/sh/v3/n010_74.FnWhileClauseSpanOrdered", spec := "fnWhileClauseSpanOrdered", apart := false, narrowed := true }
def FnWhileClauseSpanOrderedUptoSaid : Prop := fnWhileClauseSpanOrderedUptoRow.holds Try.pinned (OpenSpec.upto fnWhileClauseSpanOrderedSpec)

/-- 'n010_75.FnResetForgetsHistory', WHERE WHAT IT READS IS OF BULK AT MOST 1048576: true; the input reads as it did. -/
def fnResetForgetsHistoryUptoRow : OpenClaim := { program := "ytknilfihibmgdaa", sum := "0d3c9fca31ada4a6c1cac263137ab9328b598e6e7819a582924d3561a5ba303f", func := "mvdan.cc/sh/v3/n010_75.FnResetForgetsHistory", spec := "fnResetForgetsHistory", apart := false, narrowed := true }
def FnResetForgetsHistoryUptoSaid : Prop := fnResetForgetsHistoryUptoRow.holds Try.pinned (OpenSpec.upto fnResetForgetsHistorySpec)

/-- 'n010_75.FnLitBatchesNeverAlias', WHERE WHAT IT READS IS OF BULK AT MOST 1048576: true; the input reads as it did. -/
def fnLitBatchesNeverAliasUptoRow : OpenClaim := { program := "ytknilfihibmgdaa", sum := "0d3c9fca31ada4a6c1cac263137ab9328b598e6e7819a582924d3561a5ba303f", func := "mvdan.cc/sh/v3/n010_75.FnLitBatchesNeverAlias", spec := "fnLitBatchesNeverAlias", apart := false, narrowed := true }
def FnLitBatchesNeverAliasUptoSaid : Prop := fnLitBatchesNeverAliasUptoRow.holds Try.pinned (OpenSpec.upto fnLitBatchesNeverAliasSpec)

end Rows
end Go.Proofs.Ytknilfihibmgdaa
