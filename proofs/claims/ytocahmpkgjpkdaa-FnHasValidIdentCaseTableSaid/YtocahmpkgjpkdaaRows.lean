/-
  No cell of these rows narrows 'for every input' (looked for: loops, veiled, ifaces, maps, wideKeys, modest, calm, conditions, laid).
  DERIVED. THE GIVEN ROWS OF THIS SEAT. 5 by the template 'for every input the law returns true; each argument reads behind the call as it read before'; 0 by the template 'total and deterministic' (their statements: YtocahmpkgjpkdaaTotals.lean).
  GIVEN WITH THE SEED: the statements are not yours to turn. If you find one false, say at which input.
  Laid BY PROGRAM, IN A SANDBOX (cutbox-rows.mjs): the forced cells as the released guide's own fill.sh prints them over the translation 3f193d1593486d71… (all of the seat's roots in one cut). By AI agents, Wed Nov 11 2026. No macro, syntax, notation, axiom, sorry.
-/
import Derived.Test.YtocahmpkgjpkdaaChecked
import GoSem.Claim
import GoSem.ClaimJoined
import GoSem.ClaimMapViews
import Derived.JoinedTies
import Derived.KernelRfl
namespace Go.Proofs.Ytocahmpkgjpkdaa
/- THE CELL 'sum', in the pinned program and in every row, IS THE sha256 OF THE DUMP (.gsa) THAT YtocahmpkgjpkdaaProg.lean LOADS. Nothing in Lean hashes anything: it is a label: what it is worth is what the hold of that sum in a sandbox is worth. -/
noncomputable def Try.pinned : Pinned := { name := "ytocahmpkgjpkdaa", sum := "3f193d1593486d710a7fc0ed652a7f270a64f85313b5295eb1435c6748d32c7d", checked := Try.checked }
namespace Rows
def none {H : Type} : Left H := { results := [], args := [] }

/-- 'n010_78.FnPeekRedirExactSet': WHATEVER THE INPUT: true; the input reads as it did. -/
def fnPeekRedirExactSetSpec : ChangeSpec := { name := "fnPeekRedirExactSet", fn := fun _ => fun
  | [d] => { results := [.lit (.bool true)], args := [d] }
  | _ => none }
def fnPeekRedirExactSetRow : OpenClaim := { program := "ytocahmpkgjpkdaa", sum := "3f193d1593486d710a7fc0ed652a7f270a64f85313b5295eb1435c6748d32c7d", func := "mvdan.cc/sh/v3/n010_78.FnPeekRedirExactSet", spec := "fnPeekRedirExactSet", apart := false }
def FnPeekRedirExactSetSaid : Prop := fnPeekRedirExactSetRow.holds Try.pinned (OpenSpec.ofChange fnPeekRedirExactSetSpec)

/-- ITS FALSE NEIGHBOUR: 'it returns false'. Refute it at one input. -/
def fnPeekRedirExactSetWrong : ChangeSpec := { name := "fnPeekRedirExactSet", fn := fun _ => fun
  | [d] => { results := [.lit (.bool false)], args := [d] }
  | _ => none }
def FnPeekRedirExactSetWrongFalsely : Prop := fnPeekRedirExactSetRow.holds Try.pinned (OpenSpec.ofChange fnPeekRedirExactSetWrong)

/-- 'n010_85.FnIndentLastWins': WHATEVER THE INPUT: true; the input reads as it did. -/
def fnIndentLastWinsSpec : ChangeSpec := { name := "fnIndentLastWins", fn := fun _ => fun
  | [d1, d2, d3] => { results := [.lit (.bool true)], args := [d1, d2, d3] }
  | _ => none }
def fnIndentLastWinsRow : OpenClaim := { program := "ytocahmpkgjpkdaa", sum := "3f193d1593486d710a7fc0ed652a7f270a64f85313b5295eb1435c6748d32c7d", func := "mvdan.cc/sh/v3/n010_85.FnIndentLastWins", spec := "fnIndentLastWins", unfollowed := true, recurses := true, apart := false }
def FnIndentLastWinsSaid : Prop := fnIndentLastWinsRow.holds Try.pinned (OpenSpec.ofChange fnIndentLastWinsSpec)

/-- ITS FALSE NEIGHBOUR: 'it returns false'. Refute it at one input. -/
def fnIndentLastWinsWrong : ChangeSpec := { name := "fnIndentLastWins", fn := fun _ => fun
  | [d1, d2, d3] => { results := [.lit (.bool false)], args := [d1, d2, d3] }
  | _ => none }
def FnIndentLastWinsWrongFalsely : Prop := fnIndentLastWinsRow.holds Try.pinned (OpenSpec.ofChange fnIndentLastWinsWrong)

/-- 'n010_85.FnSwitchCaseIndentOrderFree': WHATEVER THE INPUT: true; the input reads as it did. -/
def fnSwitchCaseIndentOrderFreeSpec : ChangeSpec := { name := "fnSwitchCaseIndentOrderFree", fn := fun _ => fun
  | [d1, d2, d3] => { results := [.lit (.bool true)], args := [d1, d2, d3] }
  | _ => none }
def fnSwitchCaseIndentOrderFreeRow : OpenClaim := { program := "ytocahmpkgjpkdaa", sum := "3f193d1593486d710a7fc0ed652a7f270a64f85313b5295eb1435c6748d32c7d", func := "mvdan.cc/sh/v3/n010_85.FnSwitchCaseIndentOrderFree", spec := "fnSwitchCaseIndentOrderFree", unfollowed := true, recurses := true, apart := false }
def FnSwitchCaseIndentOrderFreeSaid : Prop := fnSwitchCaseIndentOrderFreeRow.holds Try.pinned (OpenSpec.ofChange fnSwitchCaseIndentOrderFreeSpec)

/-- ITS FALSE NEIGHBOUR: 'it returns false'. Refute it at one input. -/
def fnSwitchCaseIndentOrderFreeWrong : ChangeSpec := { name := "fnSwitchCaseIndentOrderFree", fn := fun _ => fun
  | [d1, d2, d3] => { results := [.lit (.bool false)], args := [d1, d2, d3] }
  | _ => none }
def FnSwitchCaseIndentOrderFreeWrongFalsely : Prop := fnSwitchCaseIndentOrderFreeRow.holds Try.pinned (OpenSpec.ofChange fnSwitchCaseIndentOrderFreeWrong)

/-- 'n010_78.FnValidNameMatchesByteModel': WHATEVER THE INPUT: true; the input reads as it did. -/
def fnValidNameMatchesByteModelSpec : ChangeSpec := { name := "fnValidNameMatchesByteModel", fn := fun _ => fun
  | [d] => { results := [.lit (.bool true)], args := [d] }
  | _ => none }
def fnValidNameMatchesByteModelRow : OpenClaim := { program := "ytocahmpkgjpkdaa", sum := "3f193d1593486d710a7fc0ed652a7f270a64f85313b5295eb1435c6748d32c7d", func := "mvdan.cc/sh/v3/n010_78.FnValidNameMatchesByteModel", spec := "fnValidNameMatchesByteModel", apart := false }
def FnValidNameMatchesByteModelSaid : Prop := fnValidNameMatchesByteModelRow.holds Try.pinned (OpenSpec.ofChange fnValidNameMatchesByteModelSpec)

/-- ITS FALSE NEIGHBOUR: 'it returns false'. Refute it at one input. -/
def fnValidNameMatchesByteModelWrong : ChangeSpec := { name := "fnValidNameMatchesByteModel", fn := fun _ => fun
  | [d] => { results := [.lit (.bool false)], args := [d] }
  | _ => none }
def FnValidNameMatchesByteModelWrongFalsely : Prop := fnValidNameMatchesByteModelRow.holds Try.pinned (OpenSpec.ofChange fnValidNameMatchesByteModelWrong)

/-- 'n010_78.FnHasValidIdentCaseTable': WHATEVER THE INPUT: true; the input reads as it did. -/
def fnHasValidIdentCaseTableSpec : ChangeSpec := { name := "fnHasValidIdentCaseTable", fn := fun _ => fun
  | [d1, d2, d3, d4, d5] => { results := [.lit (.bool true)], args := [d1, d2, d3, d4, d5] }
  | _ => none }
def fnHasValidIdentCaseTableRow : OpenClaim := { program := "ytocahmpkgjpkdaa", sum := "3f193d1593486d710a7fc0ed652a7f270a64f85313b5295eb1435c6748d32c7d", func := "mvdan.cc/sh/v3/n010_78.FnHasValidIdentCaseTable", spec := "fnHasValidIdentCaseTable", apart := false }
def FnHasValidIdentCaseTableSaid : Prop := fnHasValidIdentCaseTableRow.holds Try.pinned (OpenSpec.ofChange fnHasValidIdentCaseTableSpec)

/-- ITS FALSE NEIGHBOUR: 'it returns false'. Refute it at one input. -/
def fnHasValidIdentCaseTableWrong : ChangeSpec := { name := "fnHasValidIdentCaseTable", fn := fun _ => fun
  | [d1, d2, d3, d4, d5] => { results := [.lit (.bool false)], args := [d1, d2, d3, d4, d5] }
  | _ => none }
def FnHasValidIdentCaseTableWrongFalsely : Prop := fnHasValidIdentCaseTableRow.holds Try.pinned (OpenSpec.ofChange fnHasValidIdentCaseTableWrong)

/- THE SECOND FORM. 'bulk': how many values and letters a reading holds, each counted each time it is reached (what is shared counts as often as it is met; a slice's spare places count too). A statement '..UptoSaid' is the law's where the arguments, and the package variables that the reading takes, are together of bulk at most 1048576: NARROWER than '..Said'. Prove '..Said' where nothing that the law and all that it calls make is longer than what came in: it says more and counts as full. Else prove '..UptoSaid'. A law counts once. -/
mutual
def uptoBulk {H : Type} : DataW H → Nat
  | .lit (.string bytes) => bytes.length + 1
  | .lit _ => 1
  | .nil => 1
  | .ptr d => uptoBulk d + 1
  | .slice elems spare => uptoBulkAll elems + uptoBulkAll spare + 1
  | .agg parts => uptoBulkAll parts + 1
  | .iface _ d => uptoBulk d + 1
  | .map entries => uptoBulkEntries entries + 1
  | .held _ => 1
def uptoBulkAll {H : Type} : List (DataW H) → Nat
  | [] => 0
  | d :: r => uptoBulk d + uptoBulkAll r
def uptoBulkEntries {H : Type} : List (Lit × DataW H) → Nat
  | [] => 0
  | x :: r => uptoBulkEntry x + uptoBulkEntries r
def uptoBulkEntry {H : Type} : Lit × DataW H → Nat
  | (.string bytes, d) => bytes.length + uptoBulk d + 1
  | (_, d) => uptoBulk d + 1
 end
def uptoSmall : (H : Type) → List (DataW H) → Bool := fun _ ds => decide (uptoBulkAll ds ≤ 1048576)
def OpenSpec.upto (s : _root_.Go.ChangeSpec) : _root_.Go.OpenSpec := { _root_.Go.OpenSpec.ofChange s with cond := some uptoSmall }

/-- 'n010_78.FnPeekRedirExactSet', WHERE WHAT IT READS IS OF BULK AT MOST 1048576: true; the input reads as it did. -/
def fnPeekRedirExactSetUptoRow : OpenClaim := { program := "ytocahmpkgjpkdaa", sum := "3f193d1593486d710a7fc0ed652a7f270a64f85313b5295eb1435c6748d32c7d", func := "mvdan.cc/sh/v3/n010_78.FnPeekRedirExactSet", spec := "fnPeekRedirExactSet", apart := false, narrowed := true }
def FnPeekRedirExactSetUptoSaid : Prop := fnPeekRedirExactSetUptoRow.holds Try.pinned (OpenSpec.upto fnPeekRedirExactSetSpec)

/-- 'n010_85.FnIndentLastWins', WHERE WHAT IT READS IS OF BULK AT MOST 1048576: true; the input reads as it did. -/
def fnIndentLastWinsUptoRow : OpenClaim := { program := "ytocahmpkgjpkdaa", sum := "3f193d1593486d710a7fc0ed652a7f270a64f85313b5295eb1435c6748d32c7d", func := "mvdan.cc/sh/v3/n010_85.FnIndentLastWins", spec := "fnIndentLastWins", unfollowed := true, recurses := true, apart := false, narrowed := true }
def FnIndentLastWinsUptoSaid : Prop := fnIndentLastWinsUptoRow.holds Try.pinned (OpenSpec.upto fnIndentLastWinsSpec)

/-- 'n010_85.FnSwitchCaseIndentOrderFree', WHERE WHAT IT READS IS OF BULK AT MOST 1048576: true; the input reads as it did. -/
def fnSwitchCaseIndentOrderFreeUptoRow : OpenClaim := { program := "ytocahmpkgjpkdaa", sum := "3f193d1593486d710a7fc0ed652a7f270a64f85313b5295eb1435c6748d32c7d", func := "mvdan.cc/sh/v3/n010_85.FnSwitchCaseIndentOrderFree", spec := "fnSwitchCaseIndentOrderFree", unfollowed := true, recurses := true, apart := false, narrowed := true }
def FnSwitchCaseIndentOrderFreeUptoSaid : Prop := fnSwitchCaseIndentOrderFreeUptoRow.holds Try.pinned (OpenSpec.upto fnSwitchCaseIndentOrderFreeSpec)

/-- 'n010_78.FnValidNameMatchesByteModel', WHERE WHAT IT READS IS OF BULK AT MOST 1048576: true; the input reads as it did. -/
def fnValidNameMatchesByteModelUptoRow : OpenClaim := { program := "ytocahmpkgjpkdaa", sum := "3f193d1593486d710a7fc0ed652a7f270a64f85313b5295eb1435c6748d32c7d", func := "mvdan.cc/sh/v3/n010_78.FnValidNameMatchesByteModel", spec := "fnValidNameMatchesByteModel", apart := false, narrowed := true }
def FnValidNameMatchesByteModelUptoSaid : Prop := fnValidNameMatchesByteModelUptoRow.holds Try.pinned (OpenSpec.upto fnValidNameMatchesByteModelSpec)

/-- 'n010_78.FnHasValidIdentCaseTable', WHERE WHAT IT READS IS OF BULK AT MOST 1048576: true; the input reads as it did. -/
def fnHasValidIdentCaseTableUptoRow : OpenClaim := { program := "ytocahmpkgjpkdaa", sum := "3f193d1593486d710a7fc0ed652a7f270a64f85313b5295eb1435c6748d32c7d", func := "mvdan.cc/sh/v3/n010_78.FnHasValidIdentCaseTable", spec := "fnHasValidIdentCaseTable", apart := false, narrowed := true }
def FnHasValidIdentCaseTableUptoSaid : Prop := fnHasValidIdentCaseTableUptoRow.holds Try.pinned (OpenSpec.upto fnHasValidIdentCaseTableSpec)

end Rows
end Go.Proofs.Ytocahmpkgjpkdaa
