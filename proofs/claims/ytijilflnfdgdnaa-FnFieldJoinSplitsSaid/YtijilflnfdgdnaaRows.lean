/-
  No cell of these rows narrows 'for every input' (looked for: loops, veiled, ifaces, maps, wideKeys, modest, calm, conditions, laid).
  DERIVED. THE GIVEN ROWS OF THIS SEAT. 4 by the template 'for every input the law returns true; each argument reads behind the call as it read before'; 0 by the template 'total and deterministic' (their statements: YtijilflnfdgdnaaTotals.lean).
  GIVEN WITH THE SEED: the statements are not yours to turn. If you find one false, say at which input.
  Laid BY PROGRAM, IN A SANDBOX (cutbox-rows.mjs): the forced cells as the released guide's own fill.sh prints them over the translation f59360e66ffcd8a5… (all of the seat's roots in one cut). By AI agents, Wed Nov 11 2026. No macro, syntax, notation, axiom, sorry.
-/
import Derived.Test.YtijilflnfdgdnaaChecked
import GoSem.Claim
import GoSem.ClaimJoined
import GoSem.ClaimMapViews
import Derived.JoinedTies
import Derived.KernelRfl
namespace Go.Proofs.Ytijilflnfdgdnaa
/- THE CELL 'sum', in the pinned program and in every row, IS THE sha256 OF THE DUMP (.gsa) THAT YtijilflnfdgdnaaProg.lean LOADS. Nothing in Lean hashes anything: it is a label: what it is worth is what the hold of that sum in a sandbox is worth. -/
noncomputable def Try.pinned : Pinned := { name := "ytijilflnfdgdnaa", sum := "f59360e66ffcd8a52527a2c38466ea4c1fecbe09213c9e4a4cb0e8665782eb46", checked := Try.checked }
namespace Rows
def none {H : Type} : Left H := { results := [], args := [] }

/-- 'n010_76.FnPosMaxOrder': WHATEVER THE INPUT: true; the input reads as it did. -/
def fnPosMaxOrderSpec : ChangeSpec := { name := "fnPosMaxOrder", fn := fun _ => fun
  | [d1, d2, d3, d4] => { results := [.lit (.bool true)], args := [d1, d2, d3, d4] }
  | _ => none }
def fnPosMaxOrderRow : OpenClaim := { program := "ytijilflnfdgdnaa", sum := "f59360e66ffcd8a52527a2c38466ea4c1fecbe09213c9e4a4cb0e8665782eb46", func := "mvdan.cc/sh/v3/n010_76.FnPosMaxOrder", spec := "fnPosMaxOrder", apart := false }
def FnPosMaxOrderSaid : Prop := fnPosMaxOrderRow.holds Try.pinned (OpenSpec.ofChange fnPosMaxOrderSpec)

/-- ITS FALSE NEIGHBOUR: 'it returns false'. Refute it at one input. -/
def fnPosMaxOrderWrong : ChangeSpec := { name := "fnPosMaxOrder", fn := fun _ => fun
  | [d1, d2, d3, d4] => { results := [.lit (.bool false)], args := [d1, d2, d3, d4] }
  | _ => none }
def FnPosMaxOrderWrongFalsely : Prop := fnPosMaxOrderRow.holds Try.pinned (OpenSpec.ofChange fnPosMaxOrderWrong)

/-- 'n010_52.FnFieldJoinSplits': WHATEVER THE INPUT: true; the input reads as it did. -/
def fnFieldJoinSplitsSpec : ChangeSpec := { name := "fnFieldJoinSplits", fn := fun _ => fun
  | [d1, d2, d3] => { results := [.lit (.bool true)], args := [d1, d2, d3] }
  | _ => none }
def fnFieldJoinSplitsRow : OpenClaim := { program := "ytijilflnfdgdnaa", sum := "f59360e66ffcd8a52527a2c38466ea4c1fecbe09213c9e4a4cb0e8665782eb46", func := "mvdan.cc/sh/v3/n010_52.FnFieldJoinSplits", spec := "fnFieldJoinSplits", inPlace := ["internal/abi.NoEscape"], apart := false }
def FnFieldJoinSplitsSaid : Prop := fnFieldJoinSplitsRow.holds Try.pinned (OpenSpec.ofChange fnFieldJoinSplitsSpec)

/-- ITS FALSE NEIGHBOUR: 'it returns false'. Refute it at one input. -/
def fnFieldJoinSplitsWrong : ChangeSpec := { name := "fnFieldJoinSplits", fn := fun _ => fun
  | [d1, d2, d3] => { results := [.lit (.bool false)], args := [d1, d2, d3] }
  | _ => none }
def FnFieldJoinSplitsWrongFalsely : Prop := fnFieldJoinSplitsRow.holds Try.pinned (OpenSpec.ofChange fnFieldJoinSplitsWrong)

/-- 'n010_70.FnRecoverErrorGrantsExactlyTheRemainingBudget': WHATEVER THE INPUT: true; the input reads as it did. -/
def fnRecoverErrorGrantsExactlyTheRemainingBudgetSpec : ChangeSpec := { name := "fnRecoverErrorGrantsExactlyTheRemainingBudget", fn := fun _ => fun
  | [d1, d2, d3] => { results := [.lit (.bool true)], args := [d1, d2, d3] }
  | _ => none }
def fnRecoverErrorGrantsExactlyTheRemainingBudgetRow : OpenClaim := { program := "ytijilflnfdgdnaa", sum := "f59360e66ffcd8a52527a2c38466ea4c1fecbe09213c9e4a4cb0e8665782eb46", func := "mvdan.cc/sh/v3/n010_70.FnRecoverErrorGrantsExactlyTheRemainingBudget", spec := "fnRecoverErrorGrantsExactlyTheRemainingBudget", apart := false }
def FnRecoverErrorGrantsExactlyTheRemainingBudgetSaid : Prop := fnRecoverErrorGrantsExactlyTheRemainingBudgetRow.holds Try.pinned (OpenSpec.ofChange fnRecoverErrorGrantsExactlyTheRemainingBudgetSpec)

/-- ITS FALSE NEIGHBOUR: 'it returns false'. Refute it at one input. -/
def fnRecoverErrorGrantsExactlyTheRemainingBudgetWrong : ChangeSpec := { name := "fnRecoverErrorGrantsExactlyTheRemainingBudget", fn := fun _ => fun
  | [d1, d2, d3] => { results := [.lit (.bool false)], args := [d1, d2, d3] }
  | _ => none }
def FnRecoverErrorGrantsExactlyTheRemainingBudgetWrongFalsely : Prop := fnRecoverErrorGrantsExactlyTheRemainingBudgetRow.holds Try.pinned (OpenSpec.ofChange fnRecoverErrorGrantsExactlyTheRemainingBudgetWrong)

/-- 'n010_40.FnIndexedValMatchesLinearSearch': WHATEVER THE INPUT: true; the input reads as it did. -/
def fnIndexedValMatchesLinearSearchSpec : ChangeSpec := { name := "fnIndexedValMatchesLinearSearch", fn := fun _ => fun
  | [d1, d2, d3] => { results := [.lit (.bool true)], args := [d1, d2, d3] }
  | _ => none }
def fnIndexedValMatchesLinearSearchRow : OpenClaim := { program := "ytijilflnfdgdnaa", sum := "f59360e66ffcd8a52527a2c38466ea4c1fecbe09213c9e4a4cb0e8665782eb46", func := "mvdan.cc/sh/v3/n010_40.FnIndexedValMatchesLinearSearch", spec := "fnIndexedValMatchesLinearSearch", apart := false }
def FnIndexedValMatchesLinearSearchSaid : Prop := fnIndexedValMatchesLinearSearchRow.holds Try.pinned (OpenSpec.ofChange fnIndexedValMatchesLinearSearchSpec)

/-- ITS FALSE NEIGHBOUR: 'it returns false'. Refute it at one input. -/
def fnIndexedValMatchesLinearSearchWrong : ChangeSpec := { name := "fnIndexedValMatchesLinearSearch", fn := fun _ => fun
  | [d1, d2, d3] => { results := [.lit (.bool false)], args := [d1, d2, d3] }
  | _ => none }
def FnIndexedValMatchesLinearSearchWrongFalsely : Prop := fnIndexedValMatchesLinearSearchRow.holds Try.pinned (OpenSpec.ofChange fnIndexedValMatchesLinearSearchWrong)

/- THE SECOND FORM. 'bulk': how many values and letters a reading holds, each counted each time it is reached (what is shared counts as often as it is met; a slice's spare places count too). A statement '..UptoSaid' is the law's where the arguments, and the package variables that the reading takes, are together of bulk at most 1048576: NARROWER than '..Said'. Prove '..Said' where nothing that the law and all that it calls make is longer than what came in: it says more and counts as full. Else prove '..UptoSaid'. A law counts once. -/
mutual
def uptoBulk {H : Type} : DataW H → Nat
  | .lit (.string bytes) => bytes.length + 1
  | .lit _ => 1
  | .nil => 1
  | .ptr d => uptoBulk d + 1
  | .slice elems spare => uptoBulkAll elems + uptoBulkAll spare + 1
  | .agg parts => uptoBulkAll parts + 1
  | .iface _ d => uptoBulk d + 1
  | .map entries => uptoBulkEntries entries + 1
  | .held _ => 1
def uptoBulkAll {H : Type} : List (DataW H) → Nat
  | [] => 0
  | d :: r => uptoBulk d + uptoBulkAll r
def uptoBulkEntries {H : Type} : List (Lit × DataW H) → Nat
  | [] => 0
  | x :: r => uptoBulkEntry x + uptoBulkEntries r
def uptoBulkEntry {H : Type} : Lit × DataW H → Nat
  | (.string bytes, d) => bytes.length + uptoBulk d + 1
  | (_, d) => uptoBulk d + 1
 end
def uptoSmall : (H : Type) → List (DataW H) → Bool := fun _ ds => decide (uptoBulkAll ds ≤ 1048576)
def OpenSpec.upto (s : _root_.Go.ChangeSpec) : _root_.Go.OpenSpec := { _root_.Go.OpenSpec.ofChange s with cond := some uptoSmall }

/-- 'n010_76.FnPosMaxOrder', WHERE WHAT IT READS IS OF BULK AT MOST 1048576: true; the input reads as it did. -/
def fnPosMaxOrderUptoRow : OpenClaim := { program := "ytijilflnfdgdnaa", sum := "f59360e66ffcd8a52527a2c38466ea4c1fecbe09213c9e4a4cb0e8665782eb46", func := "mvdan.cc/sh/v3/n010_76.FnPosMaxOrder", spec := "fnPosMaxOrder", apart := false, narrowed := true }
def FnPosMaxOrderUptoSaid : Prop := fnPosMaxOrderUptoRow.holds Try.pinned (OpenSpec.upto fnPosMaxOrderSpec)

/-- 'n010_52.FnFieldJoinSplits', WHERE WHAT IT READS IS OF BULK AT MOST 1048576: true; the input reads as it did. -/
def fnFieldJoinSplitsUptoRow : OpenClaim := { program := "ytijilflnfdgdnaa", sum := "f59360e66ffcd8a52527a2c38466ea4c1fecbe09213c9e4a4cb0e8665782eb46", func := "mvdan.cc/sh/v3/n010_52.FnFieldJoinSplits", spec := "fnFieldJoinSplits", inPlace := ["internal/abi.NoEscape"], apart := false, narrowed := true }
def FnFieldJoinSplitsUptoSaid : Prop := fnFieldJoinSplitsUptoRow.holds Try.pinned (OpenSpec.upto fnFieldJoinSplitsSpec)

/-- 'n010_70.FnRecoverErrorGrantsExactlyTheRemainingBudget', WHERE WHAT IT READS IS OF BULK AT MOST 1048576: true; the input reads as it did. -/
def fnRecoverErrorGrantsExactlyTheRemainingBudgetUptoRow : OpenClaim := { program := "ytijilflnfdgdnaa", sum := "f59360e66ffcd8a52527a2c38466ea4c1fecbe09213c9e4a4cb0e8665782eb46", func := "mvdan.cc/sh/v3/n010_70.FnRecoverErrorGrantsExactlyTheRemainingBudget", spec := "fnRecoverErrorGrantsExactlyTheRemainingBudget", apart := false, narrowed := true }
def FnRecoverErrorGrantsExactlyTheRemainingBudgetUptoSaid : Prop := fnRecoverErrorGrantsExactlyTheRemainingBudgetUptoRow.holds Try.pinned (OpenSpec.upto fnRecoverErrorGrantsExactlyTheRemainingBudgetSpec)

/-- 'n010_40.FnIndexedValMatchesLinearSearch', WHERE WHAT IT READS IS OF BULK AT MOST 1048576: true; the input reads as it did. -/
def fnIndexedValMatchesLinearSearchUptoRow : OpenClaim := { program := "ytijilflnfdgdnaa", sum := "f59360e66ffcd8a52527a2c38466ea4c1fecbe09213c9e4a4cb0e8665782eb46", func := "mvdan.cc/sh/v3/n010_40.FnIndexedValMatchesLinearSearch", spec := "fnIndexedValMatchesLinearSearch", apart := false, narrowed := true }
def FnIndexedValMatchesLinearSearchUptoSaid : Prop := fnIndexedValMatchesLinearSearchUptoRow.holds Try.pinned (OpenSpec.upto fnIndexedValMatchesLinearSearchSpec)

end Rows
end Go.Proofs.Ytijilflnfdgdnaa
