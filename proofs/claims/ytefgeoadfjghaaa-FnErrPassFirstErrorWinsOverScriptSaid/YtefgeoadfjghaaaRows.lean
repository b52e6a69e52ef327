/-
  No cell of these rows narrows 'for every input' (looked for: loops, veiled, ifaces, maps, wideKeys, modest, calm, conditions, laid).
  DERIVED. THE GIVEN ROWS OF THIS SEAT. 4 by the template 'for every input the law returns true; each argument reads behind the call as it read before'; 0 by the template 'total and deterministic' (their statements: YtefgeoadfjghaaaTotals.lean).
  GIVEN WITH THE SEED: the statements are not yours to turn. If you find one false, say at which input.
  Laid BY PROGRAM, IN A SANDBOX (cutbox-rows.mjs): the forced cells as the released guide's own fill.sh prints them over the translation e0d61dce19ab0e09… (all of the seat's roots in one cut). By AI agents, Wed Nov 11 2026. No macro, syntax, notation, axiom, sorry.
-/
import Derived.Test.YtefgeoadfjghaaaChecked
import GoSem.Claim
import GoSem.ClaimJoined
import GoSem.ClaimMapViews
import Derived.JoinedTies
import Derived.KernelRfl
namespace Go.Proofs.Ytefgeoadfjghaaa
/- THE CELL 'sum', in the pinned program and in every row, IS THE sha256 OF THE DUMP (.gsa) THAT YtefgeoadfjghaaaProg.lean LOADS. Nothing in Lean hashes anything: it is a label: what it is worth is what the hold of that sum in a sandbox is worth. -/
noncomputable def Try.pinned : Pinned := { name := "ytefgeoadfjghaaa", sum := "e0d61dce19ab0e09fc88f6dbb75680406f07d0f04aa2376423b8b6d856cef076", checked := Try.checked }
namespace Rows
def none {H : Type} : Left H := { results := [], args := [] }

/-- 'n010_6.FnIntPowOfPower': WHATEVER THE INPUT: true; the input reads as it did. -/
def fnIntPowOfPowerSpec : ChangeSpec := { name := "fnIntPowOfPower", fn := fun _ => fun
  | [d1, d2, d3] => { results := [.lit (.bool true)], args := [d1, d2, d3] }
  | _ => none }
def fnIntPowOfPowerRow : OpenClaim := { program := "ytefgeoadfjghaaa", sum := "e0d61dce19ab0e09fc88f6dbb75680406f07d0f04aa2376423b8b6d856cef076", func := "mvdan.cc/sh/v3/n010_6.FnIntPowOfPower", spec := "fnIntPowOfPower", apart := false }
def FnIntPowOfPowerSaid : Prop := fnIntPowOfPowerRow.holds Try.pinned (OpenSpec.ofChange fnIntPowOfPowerSpec)

/-- ITS FALSE NEIGHBOUR: 'it returns false'. Refute it at one input. -/
def fnIntPowOfPowerWrong : ChangeSpec := { name := "fnIntPowOfPower", fn := fun _ => fun
  | [d1, d2, d3] => { results := [.lit (.bool false)], args := [d1, d2, d3] }
  | _ => none }
def FnIntPowOfPowerWrongFalsely : Prop := fnIntPowOfPowerRow.holds Try.pinned (OpenSpec.ofChange fnIntPowOfPowerWrong)

/-- 'n010_6.FnIntPowMatchesRepeatedMultiplication': WHATEVER THE INPUT: true; the input reads as it did. -/
def fnIntPowMatchesRepeatedMultiplicationSpec : ChangeSpec := { name := "fnIntPowMatchesRepeatedMultiplication", fn := fun _ => fun
  | [d1, d2] => { results := [.lit (.bool true)], args := [d1, d2] }
  | _ => none }
def fnIntPowMatchesRepeatedMultiplicationRow : OpenClaim := { program := "ytefgeoadfjghaaa", sum := "e0d61dce19ab0e09fc88f6dbb75680406f07d0f04aa2376423b8b6d856cef076", func := "mvdan.cc/sh/v3/n010_6.FnIntPowMatchesRepeatedMultiplication", spec := "fnIntPowMatchesRepeatedMultiplication", apart := false }
def FnIntPowMatchesRepeatedMultiplicationSaid : Prop := fnIntPowMatchesRepeatedMultiplicationRow.holds Try.pinned (OpenSpec.ofChange fnIntPowMatchesRepeatedMultiplicationSpec)

/-- ITS FALSE NEIGHBOUR: 'it returns false'. Refute it at one input. -/
def fnIntPowMatchesRepeatedMultiplicationWrong : ChangeSpec := { name := "fnIntPowMatchesRepeatedMultiplication", fn := fun _ => fun
  | [d1, d2] => { results := [.lit (.bool false)], args := [d1, d2] }
  | _ => none }
def FnIntPowMatchesRepeatedMultiplicationWrongFalsely : Prop := fnIntPowMatchesRepeatedMultiplicationRow.holds Try.pinned (OpenSpec.ofChange fnIntPowMatchesRepeatedMultiplicationWrong)

/-- 'n010_97.FnErrPassFirstErrorWinsOverScript': WHATEVER THE INPUT: true; the input reads as it did. -/
def fnErrPassFirstErrorWinsOverScriptSpec : ChangeSpec := { name := "fnErrPassFirstErrorWinsOverScript", fn := fun _ => fun
  | [d1, d2, d3, d4, d5, d6] => { results := [.lit (.bool true)], args := [d1, d2, d3, d4, d5, d6] }
  | _ => none }
def fnErrPassFirstErrorWinsOverScriptRow : OpenClaim := { program := "ytefgeoadfjghaaa", sum := "e0d61dce19ab0e09fc88f6dbb75680406f07d0f04aa2376423b8b6d856cef076", func := "mvdan.cc/sh/v3/n010_97.FnErrPassFirstErrorWinsOverScript", spec := "fnErrPassFirstErrorWinsOverScript", unfollowed := true, recurses := true, apart := false }
def FnErrPassFirstErrorWinsOverScriptSaid : Prop := fnErrPassFirstErrorWinsOverScriptRow.holds Try.pinned (OpenSpec.ofChange fnErrPassFirstErrorWinsOverScriptSpec)

/-- ITS FALSE NEIGHBOUR: 'it returns false'. Refute it at one input. -/
def fnErrPassFirstErrorWinsOverScriptWrong : ChangeSpec := { name := "fnErrPassFirstErrorWinsOverScript", fn := fun _ => fun
  | [d1, d2, d3, d4, d5, d6] => { results := [.lit (.bool false)], args := [d1, d2, d3, d4, d5, d6] }
  | _ => none }
def FnErrPassFirstErrorWinsOverScriptWrongFalsely : Prop := fnErrPassFirstErrorWinsOverScriptRow.holds Try.pinned (OpenSpec.ofChange fnErrPassFirstErrorWinsOverScriptWrong)

/-- 'n010_6.FnAtoiLargeBaseConcat': WHATEVER THE INPUT: true; the input reads as it did. -/
def fnAtoiLargeBaseConcatSpec : ChangeSpec := { name := "fnAtoiLargeBaseConcat", fn := fun _ => fun
  | [d1, d2, d3] => { results := [.lit (.bool true)], args := [d1, d2, d3] }
  | _ => none }
def fnAtoiLargeBaseConcatRow : OpenClaim := { program := "ytefgeoadfjghaaa", sum := "e0d61dce19ab0e09fc88f6dbb75680406f07d0f04aa2376423b8b6d856cef076", func := "mvdan.cc/sh/v3/n010_6.FnAtoiLargeBaseConcat", spec := "fnAtoiLargeBaseConcat", apart := false }
def FnAtoiLargeBaseConcatSaid : Prop := fnAtoiLargeBaseConcatRow.holds Try.pinned (OpenSpec.ofChange fnAtoiLargeBaseConcatSpec)

/-- ITS FALSE NEIGHBOUR: 'it returns false'. Refute it at one input. -/
def fnAtoiLargeBaseConcatWrong : ChangeSpec := { name := "fnAtoiLargeBaseConcat", fn := fun _ => fun
  | [d1, d2, d3] => { results := [.lit (.bool false)], args := [d1, d2, d3] }
  | _ => none }
def FnAtoiLargeBaseConcatWrongFalsely : Prop := fnAtoiLargeBaseConcatRow.holds Try.pinned (OpenSpec.ofChange fnAtoiLargeBaseConcatWrong)

/- THE SECOND FORM. 'bulk': how many values and letters a reading holds, each counted each time it is reached (what is shared counts as often as it is met; a slice's spare places count too). A statement '..UptoSaid' is the law's where the arguments, and the package variables that the reading takes, are together of bulk at most 1048576: NARROWER than '..Said'. Prove '..Said' where nothing that the law and all that it calls make is longer than what came in: it says more and counts as full. Else prove '..UptoSaid'. A law counts once. -/
mutual
def uptoBulk {H : Type} : DataW H → Nat
  | .lit (.string bytes) => bytes.length + 1
  | .lit _ => 1
  | .nil => 1
  | .ptr d => uptoBulk d + 1
  | .slice elems spare => uptoBulkAll elems + uptoBulkAll spare + 1
  | .agg parts => uptoBulkAll parts + 1
  | .iface _ d => uptoBulk d + 1
  | .map entries => uptoBulkEntries entries + 1
  | .held _ => 1
def uptoBulkAll {H : Type} : List (DataW H) → Nat
  | [] => 0
  | d :: r => uptoBulk d + uptoBulkAll r
def uptoBulkEntries {H : Type} : List (Lit × DataW H) → Nat
  | [] => 0
  | x :: r => uptoBulkEntry x + uptoBulkEntries r
def uptoBulkEntry {H : Type} : Lit × DataW H → Nat
  | (.string bytes, d) => bytes.length + uptoBulk d + 1
  | (_, d) => uptoBulk d + 1
 end
def uptoSmall : (H : Type) → List (DataW H) → Bool := fun _ ds => decide (uptoBulkAll ds ≤ 1048576)
def OpenSpec.upto (s : _root_.Go.ChangeSpec) : _root_.Go.OpenSpec := { _root_.Go.OpenSpec.ofChange s with cond := some uptoSmall }

/-- 'n010_6.FnIntPowOfPower', WHERE WHAT IT READS IS OF BULK AT MOST 1048576: true; the input reads as it did. -/
def fnIntPowOfPowerUptoRow : OpenClaim := { program := "ytefgeoadfjghaaa", sum := "e0d61dce19ab0e09fc88f6dbb75680406f07d0f04aa2376423b8b6d856cef076", func := "mvdan.cc/sh/v3/n010_6.FnIntPowOfPower", spec := "fnIntPowOfPower", apart := false, narrowed := true }
def FnIntPowOfPowerUptoSaid : Prop := fnIntPowOfPowerUptoRow.holds Try.pinned (OpenSpec.upto fnIntPowOfPowerSpec)

/-- 'n010_6.FnIntPowMatchesRepeatedMultiplication', WHERE WHAT IT READS IS OF BULK AT MOST 1048576: true; the input reads as it did. -/
def fnIntPowMatchesRepeatedMultiplicationUptoRow : OpenClaim := { program := "ytefgeoadfjghaaa", sum := "e0d61dce19ab0e09fc88f6dbb75680406f07d0f04aa2376423b8b6d856cef076", func := "mvdan.cc/sh/v3/n010_6.FnIntPowMatchesRepeatedMultiplication", spec := "fnIntPowMatchesRepeatedMultiplication", apart := false, narrowed := true }
def FnIntPowMatchesRepeatedMultiplicationUptoSaid : Prop := fnIntPowMatchesRepeatedMultiplicationUptoRow.holds Try.pinned (OpenSpec.upto fnIntPowMatchesRepeatedMultiplicationSpec)

/-- 'n010_97.FnErrPassFirstErrorWinsOverScript', WHERE WHAT IT READS IS OF BULK AT MOST 1048576: true; the input reads as it did. -/
def fnErrPassFirstErrorWinsOverScriptUptoRow : OpenClaim := { program := "ytefgeoadfjghaaa", sum := "e0d61dce19ab0e09fc88f6dbb75680406f07d0f04aa2376423b8b6d856cef076", func := "mvdan.cc/sh/v3/n010_97.FnErrPassFirstErrorWinsOverScript", spec := "fnErrPassFirstErrorWinsOverScript", unfollowed := true, recurses := true, apart := false, narrowed := true }
def FnErrPassFirstErrorWinsOverScriptUptoSaid : Prop := fnErrPassFirstErrorWinsOverScriptUptoRow.holds Try.pinned (OpenSpec.upto fnErrPassFirstErrorWinsOverScriptSpec)

/-- 'n010_6.FnAtoiLargeBaseConcat', WHERE WHAT IT READS IS OF BULK AT MOST 1048576: true; the input reads as it did. -/
def fnAtoiLargeBaseConcatUptoRow : OpenClaim := { program := "ytefgeoadfjghaaa", sum := "e0d61dce19ab0e09fc88f6dbb75680406f07d0f04aa2376423b8b6d856cef076", func := "mvdan.cc/sh/v3/n010_6.FnAtoiLargeBaseConcat", spec := "fnAtoiLargeBaseConcat", apart := false, narrowed := true }
def FnAtoiLargeBaseConcatUptoSaid : Prop := fnAtoiLargeBaseConcatUptoRow.holds Try.pinned (OpenSpec.upto fnAtoiLargeBaseConcatSpec)

end Rows
end Go.Proofs.Ytefgeoadfjghaaa
