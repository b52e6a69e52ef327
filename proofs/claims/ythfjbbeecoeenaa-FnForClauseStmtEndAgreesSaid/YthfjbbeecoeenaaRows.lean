/-
  No cell of these rows narrows 'for every input' (looked for: loops, veiled, ifaces, maps, wideKeys, modest, calm, conditions, laid).
  DERIVED. THE GIVEN ROWS OF THIS SEAT. 5 by the template 'for every input the law returns true; each argument reads behind the call as it read before'; 0 by the template 'total and deterministic' (their statements: YthfjbbeecoeenaaTotals.lean).
  GIVEN WITH THE SEED: the statements are not yours to turn. If you find one false, say at which input.
  Laid BY PROGRAM, IN A SANDBOX (cutbox-rows.mjs): the forced cells as the released guide's own fill.sh prints them over the translation 14b151069bf331b2… (all of the seat's roots in one cut). By AI agents, Wed Nov 11 2026. No macro, syntax, notation, axiom, sorry.
-/
import Derived.Test.YthfjbbeecoeenaaChecked
import GoSem.Claim
import GoSem.ClaimJoined
import GoSem.ClaimMapViews
import Derived.JoinedTies
import Derived.KernelRfl
namespace Go.Proofs.Ythfjbbeecoeenaa
/- THE CELL 'sum', in the pinned program and in every row, IS THE sha256 OF THE DUMP (.gsa) THAT YthfjbbeecoeenaaProg.lean LOADS. Nothing in Lean hashes anything: it is a label: what it is worth is what the hold of that sum in a sandbox is worth. -/
noncomputable def Try.pinned : Pinned := { name := "ythfjbbeecoeenaa", sum := "14b151069bf331b2d7fe15a0cd8ce9218e78428154c71551eb7bc1d75d59b264", checked := Try.checked }
namespace Rows
def none {H : Type} : Left H := { results := [], args := [] }

/-- 'n010_80.FnKindAloneIsUnsetButDeclared': WHATEVER THE INPUT: true; the input reads as it did. -/
def fnKindAloneIsUnsetButDeclaredSpec : ChangeSpec := { name := "fnKindAloneIsUnsetButDeclared", fn := fun _ => fun
  | [d] => { results := [.lit (.bool true)], args := [d] }
  | _ => none }
def fnKindAloneIsUnsetButDeclaredRow : OpenClaim := { program := "ythfjbbeecoeenaa", sum := "14b151069bf331b2d7fe15a0cd8ce9218e78428154c71551eb7bc1d75d59b264", func := "mvdan.cc/sh/v3/n010_80.FnKindAloneIsUnsetButDeclared", spec := "fnKindAloneIsUnsetButDeclared", apart := false }
def FnKindAloneIsUnsetButDeclaredSaid : Prop := fnKindAloneIsUnsetButDeclaredRow.holds Try.pinned (OpenSpec.ofChange fnKindAloneIsUnsetButDeclaredSpec)

/-- ITS FALSE NEIGHBOUR: 'it returns false'. Refute it at one input. -/
def fnKindAloneIsUnsetButDeclaredWrong : ChangeSpec := { name := "fnKindAloneIsUnsetButDeclared", fn := fun _ => fun
  | [d] => { results := [.lit (.bool false)], args := [d] }
  | _ => none }
def FnKindAloneIsUnsetButDeclaredWrongFalsely : Prop := fnKindAloneIsUnsetButDeclaredRow.holds Try.pinned (OpenSpec.ofChange fnKindAloneIsUnsetButDeclaredWrong)

/-- 'n010_98.FnForClauseStmtEndAgrees': WHATEVER THE INPUT: true; the input reads as it did. -/
def fnForClauseStmtEndAgreesSpec : ChangeSpec := { name := "fnForClauseStmtEndAgrees", fn := fun _ => fun
  | [d1, d2, d3, d4, d5, d6, d7, d8] => { results := [.lit (.bool true)], args := [d1, d2, d3, d4, d5, d6, d7, d8] }
  | _ => none }
def fnForClauseStmtEndAgreesRow : OpenClaim := { program := "ythfjbbeecoeenaa", sum := "14b151069bf331b2d7fe15a0cd8ce9218e78428154c71551eb7bc1d75d59b264", func := "mvdan.cc/sh/v3/n010_98.FnForClauseStmtEndAgrees", spec := "fnForClauseStmtEndAgrees", unfollowed := true, recurses := true, apart := false }
def FnForClauseStmtEndAgreesSaid : Prop := fnForClauseStmtEndAgreesRow.holds Try.pinned (OpenSpec.ofChange fnForClauseStmtEndAgreesSpec)

/-- ITS FALSE NEIGHBOUR: 'it returns false'. Refute it at one input. -/
def fnForClauseStmtEndAgreesWrong : ChangeSpec := { name := "fnForClauseStmtEndAgrees", fn := fun _ => fun
  | [d1, d2, d3, d4, d5, d6, d7, d8] => { results := [.lit (.bool false)], args := [d1, d2, d3, d4, d5, d6, d7, d8] }
  | _ => none }
def FnForClauseStmtEndAgreesWrongFalsely : Prop := fnForClauseStmtEndAgreesRow.holds Try.pinned (OpenSpec.ofChange fnForClauseStmtEndAgreesWrong)

/-- 'n010_80.FnStringModel': WHATEVER THE INPUT: true; the input reads as it did. -/
def fnStringModelSpec : ChangeSpec := { name := "fnStringModel", fn := fun _ => fun
  | [d1, d2, d3, d4, d5, d6, d7, d8] => { results := [.lit (.bool true)], args := [d1, d2, d3, d4, d5, d6, d7, d8] }
  | _ => none }
def fnStringModelRow : OpenClaim := { program := "ythfjbbeecoeenaa", sum := "14b151069bf331b2d7fe15a0cd8ce9218e78428154c71551eb7bc1d75d59b264", func := "mvdan.cc/sh/v3/n010_80.FnStringModel", spec := "fnStringModel", apart := false }
def FnStringModelSaid : Prop := fnStringModelRow.holds Try.pinned (OpenSpec.ofChange fnStringModelSpec)

/-- ITS FALSE NEIGHBOUR: 'it returns false'. Refute it at one input. -/
def fnStringModelWrong : ChangeSpec := { name := "fnStringModel", fn := fun _ => fun
  | [d1, d2, d3, d4, d5, d6, d7, d8] => { results := [.lit (.bool false)], args := [d1, d2, d3, d4, d5, d6, d7, d8] }
  | _ => none }
def FnStringModelWrongFalsely : Prop := fnStringModelRow.holds Try.pinned (OpenSpec.ofChange fnStringModelWrong)

/-- 'n010_80.FnHasLeadingZerosDigitsCanonical': WHATEVER THE INPUT: true; the input reads as it did. -/
def fnHasLeadingZerosDigitsCanonicalSpec : ChangeSpec := { name := "fnHasLeadingZerosDigitsCanonical", fn := fun _ => fun
  | [d] => { results := [.lit (.bool true)], args := [d] }
  | _ => none }
def fnHasLeadingZerosDigitsCanonicalRow : OpenClaim := { program := "ythfjbbeecoeenaa", sum := "14b151069bf331b2d7fe15a0cd8ce9218e78428154c71551eb7bc1d75d59b264", func := "mvdan.cc/sh/v3/n010_80.FnHasLeadingZerosDigitsCanonical", spec := "fnHasLeadingZerosDigitsCanonical", apart := false }
def FnHasLeadingZerosDigitsCanonicalSaid : Prop := fnHasLeadingZerosDigitsCanonicalRow.holds Try.pinned (OpenSpec.ofChange fnHasLeadingZerosDigitsCanonicalSpec)

/-- ITS FALSE NEIGHBOUR: 'it returns false'. Refute it at one input. -/
def fnHasLeadingZerosDigitsCanonicalWrong : ChangeSpec := { name := "fnHasLeadingZerosDigitsCanonical", fn := fun _ => fun
  | [d] => { results := [.lit (.bool false)], args := [d] }
  | _ => none }
def FnHasLeadingZerosDigitsCanonicalWrongFalsely : Prop := fnHasLeadingZerosDigitsCanonicalRow.holds Try.pinned (OpenSpec.ofChange fnHasLeadingZerosDigitsCanonicalWrong)

/-- 'n010_98.FnForClauseEndExact': WHATEVER THE INPUT: true; the input reads as it did. -/
def fnForClauseEndExactSpec : ChangeSpec := { name := "fnForClauseEndExact", fn := fun _ => fun
  | [d1, d2, d3, d4] => { results := [.lit (.bool true)], args := [d1, d2, d3, d4] }
  | _ => none }
def fnForClauseEndExactRow : OpenClaim := { program := "ythfjbbeecoeenaa", sum := "14b151069bf331b2d7fe15a0cd8ce9218e78428154c71551eb7bc1d75d59b264", func := "mvdan.cc/sh/v3/n010_98.FnForClauseEndExact", spec := "fnForClauseEndExact", apart := false }
def FnForClauseEndExactSaid : Prop := fnForClauseEndExactRow.holds Try.pinned (OpenSpec.ofChange fnForClauseEndExactSpec)

/-- ITS FALSE NEIGHBOUR: 'it returns false'. Refute it at one input. -/
def fnForClauseEndExactWrong : ChangeSpec := { name := "fnForClauseEndExact", fn := fun _ => fun
  | [d1, d2, d3, d4] => { results := [.lit (.bool false)], args := [d1, d2, d3, d4] }
  | _ => none }
def FnForClauseEndExactWrongFalsely : Prop := fnForClauseEndExactRow.holds Try.pinned (OpenSpec.ofChange fnForClauseEndExactWrong)

/- THE SECOND FORM. 'bulk': how many values and letters a reading holds, each counted each time it is reached (what is shared counts as often as it is met; a slice's spare places count too). A statement '..UptoSaid' is the law's where the arguments, and the package variables that the reading takes, are together of bulk at most 1048576: NARROWER than '..Said'. Prove '..Said' where nothing that the law and all that it calls make is longer than what came in: it says more and counts as full. Else prove '..UptoSaid'. A law counts once. -/
mutual
def uptoBulk {H : Type} : DataW H → Nat
  | .lit (.string bytes) => bytes.length + 1
  | .lit _ => 1
  | .nil => 1
  | .ptr d => uptoBulk d + 1
  | .slice elems spare => uptoBulkAll elems + uptoBulkAll spare + 1
  | .agg parts => uptoBulkAll parts + 1
  | .iface _ d => uptoBulk d + 1
  | .map entries => uptoBulkEntries entries + 1
  | .held _ => 1
def uptoBulkAll {H : Type} : List (DataW H) → Nat
  | [] => 0
  | d :: r => uptoBulk d + uptoBulkAll r
def uptoBulkEntries {H : Type} : List (Lit × DataW H) → Nat
  | [] => 0
  | x :: r => uptoBulkEntry x + uptoBulkEntries r
def uptoBulkEntry {H : Type} : Lit × DataW H → Nat
  | (.string bytes, d) => bytes.length + uptoBulk d + 1
  | (_, d) => uptoBulk d + 1
 end
def uptoSmall : (H : Type) → List (DataW H) → Bool := fun _ ds => decide (uptoBulkAll ds ≤ 1048576)
def OpenSpec.upto (s : _root_.Go.ChangeSpec) : _root_.Go.OpenSpec := { _root_.Go.OpenSpec.ofChange s with cond := some uptoSmall }

/-- 'n010_80.FnKindAloneIsUnsetButDeclared', WHERE WHAT IT READS IS OF BULK AT MOST 1048576: true; the input reads as it did. -/
def fnKindAloneIsUnsetButDeclaredUptoRow : OpenClaim := { program := "ythfjbbeecoeenaa", sum := "14b151069bf331b2d7fe15a0cd8ce9218e78428154c71551eb7bc1d75d59b264", func := "mvdan.cc/sh/v3/n010_80.FnKindAloneIsUnsetButDeclared", spec := "fnKindAloneIsUnsetButDeclared", apart := false, narrowed := true }
def FnKindAloneIsUnsetButDeclaredUptoSaid : Prop := fnKindAloneIsUnsetButDeclaredUptoRow.holds Try.pinned (OpenSpec.upto fnKindAloneIsUnsetButDeclaredSpec)

/-- 'n010_98.FnForClauseStmtEndAgrees', WHERE WHAT IT READS IS OF BULK AT MOST 1048576: true; the input reads as it did. -/
def fnForClauseStmtEndAgreesUptoRow : OpenClaim := { program := "ythfjbbeecoeenaa", sum := "14b151069bf331b2d7fe15a0cd8ce9218e78428154c71551eb7bc1d75d59b264", func := "mvdan.cc/sh/v3/n010_98.FnForClauseStmtEndAgrees", spec := "fnForClauseStmtEndAgrees", unfollowed := true, recurses := true, apart := false, narrowed := true }
def FnForClauseStmtEndAgreesUptoSaid : Prop := fnForClauseStmtEndAgreesUptoRow.holds Try.pinned (OpenSpec.upto fnForClauseStmtEndAgreesSpec)

/-- 'n010_80.FnStringModel', WHERE WHAT IT READS IS OF BULK AT MOST 1048576: true; the input reads as it did. -/
def fnStringModelUptoRow : OpenClaim := { program := "ythfjbbeecoeenaa", sum := "14b151069bf331b2d7fe15a0cd8ce9218e78428154c71551eb7bc1d75d59b264", func := "mvdan.cc/sh/v3/n010_80.FnStringModel", spec := "fnStringModel", apart := false, narrowed := true }
def FnStringModelUptoSaid : Prop := fnStringModelUptoRow.holds Try.pinned (OpenSpec.upto fnStringModelSpec)

/-- 'n010_80.FnHasLeadingZerosDigitsCanonical', WHERE WHAT IT READS IS OF BULK AT MOST 1048576: true; the input reads as it did. -/
def fnHasLeadingZerosDigitsCanonicalUptoRow : OpenClaim := { program := "ythfjbbeecoeenaa", sum := "14b151069bf331b2d7fe15a0cd8ce9218e78428154c71551eb7bc1d75d59b264", func := "mvdan.cc/sh/v3/n010_80.FnHasLeadingZerosDigitsCanonical", spec := "fnHasLeadingZerosDigitsCanonical", apart := false, narrowed := true }
def FnHasLeadingZerosDigitsCanonicalUptoSaid : Prop := fnHasLeadingZerosDigitsCanonicalUptoRow.holds Try.pinned (OpenSpec.upto fnHasLeadingZerosDigitsCanonicalSpec)

/-- 'n010_98.FnForClauseEndExact', WHERE WHAT IT READS IS OF BULK AT MOST 1048576: true; the input reads as it did. -/
def fnForClauseEndExactUptoRow : OpenClaim := { program := "ythfjbbeecoeenaa", sum := "14b151069bf331b2d7fe15a0cd8ce9218e78428154c71551eb7bc1d75d59b264", func := "mvdan.cc/sh/v3/n010_98.FnForClauseEndExact", spec := "fnForClauseEndExact", apart := false, narrowed := true }
def FnForClauseEndExactUptoSaid : Prop := fnForClauseEndExactUptoRow.holds Try.pinned (OpenSpec.upto fnForClauseEndExactSpec)

end Rows
end Go.Proofs.Ythfjbbeecoeenaa
