/-
  No cell of these rows narrows 'for every input' (looked for: loops, veiled, ifaces, maps, wideKeys, modest, calm, conditions, laid).
  DERIVED. THE GIVEN ROWS OF THIS SEAT. 3 by the template 'for every input the law returns true; each argument reads behind the call as it read before'; 0 by the template 'total and deterministic' (their statements: YtdiimpggoejphaaTotals.lean).
  GIVEN WITH THE SEED: the statements are not yours to turn. If you find one false, say at which input.
  Laid BY PROGRAM, IN A SANDBOX (cutbox-rows.mjs): the forced cells as the released guide's own fill.sh prints them over the translation 1bf9284da01834ba… (all of the seat's roots in one cut). By AI agents, Wed Nov 11 2026. No macro, syntax, notation, axiom, sorry.
-/
import Derived.Test.YtdiimpggoejphaaChecked
import GoSem.Claim
import GoSem.ClaimJoined
import GoSem.ClaimMapViews
import Derived.JoinedTies
import Derived.KernelRfl
namespace Go.Proofs.Ytdiimpggoejphaa
/- THE CELL 'sum', in the pinned program and in every row, IS THE sha256 OF THE DUMP (.gsa) THAT YtdiimpggoejphaaProg.lean LOADS. Nothing in Lean hashes anything: it is a label: what it is worth is what the hold of that sum in a sandbox is worth. -/
noncomputable def Try.pinned : Pinned := { name := "ytdiimpggoejphaa", sum := "1bf9284da01834ba138d456740d18bf28395ac31b5060023ef09df8f7711c2a0", checked := Try.checked }
namespace Rows
def none {H : Type} : Left H := { results := [], args := [] }

/-- 'n010_37.FnPathJoin2Associative': WHATEVER THE INPUT: true; the input reads as it did. -/
def fnPathJoin2AssociativeSpec : ChangeSpec := { name := "fnPathJoin2Associative", fn := fun _ => fun
  | [d1, d2, d3] => { results := [.lit (.bool true)], args := [d1, d2, d3] }
  | _ => none }
def fnPathJoin2AssociativeRow : OpenClaim := { program := "ytdiimpggoejphaa", sum := "1bf9284da01834ba138d456740d18bf28395ac31b5060023ef09df8f7711c2a0", func := "mvdan.cc/sh/v3/n010_37.FnPathJoin2Associative", spec := "fnPathJoin2Associative", apart := false }
def FnPathJoin2AssociativeSaid : Prop := fnPathJoin2AssociativeRow.holds Try.pinned (OpenSpec.ofChange fnPathJoin2AssociativeSpec)

/-- ITS FALSE NEIGHBOUR: 'it returns false'. Refute it at one input. -/
def fnPathJoin2AssociativeWrong : ChangeSpec := { name := "fnPathJoin2Associative", fn := fun _ => fun
  | [d1, d2, d3] => { results := [.lit (.bool false)], args := [d1, d2, d3] }
  | _ => none }
def FnPathJoin2AssociativeWrongFalsely : Prop := fnPathJoin2AssociativeRow.holds Try.pinned (OpenSpec.ofChange fnPathJoin2AssociativeWrong)

/-- 'n010_163.FnIfsRuneIsDecodedRune': WHATEVER THE INPUT: true; the input reads as it did. -/
def fnIfsRuneIsDecodedRuneSpec : ChangeSpec := { name := "fnIfsRuneIsDecodedRune", fn := fun _ => fun
  | [d1, d2] => { results := [.lit (.bool true)], args := [d1, d2] }
  | _ => none }
def fnIfsRuneIsDecodedRuneRow : OpenClaim := { program := "ytdiimpggoejphaa", sum := "1bf9284da01834ba138d456740d18bf28395ac31b5060023ef09df8f7711c2a0", func := "mvdan.cc/sh/v3/n010_163.FnIfsRuneIsDecodedRune", spec := "fnIfsRuneIsDecodedRune", inPlace := ["internal/bytealg.IndexByteString", "internal/bytealg.IndexString"], named := ["internal/bytealg.MaxLen"], apart := false }
def FnIfsRuneIsDecodedRuneSaid : Prop := fnIfsRuneIsDecodedRuneRow.holds Try.pinned (OpenSpec.ofChange fnIfsRuneIsDecodedRuneSpec)

/-- ITS FALSE NEIGHBOUR: 'it returns false'. Refute it at one input. -/
def fnIfsRuneIsDecodedRuneWrong : ChangeSpec := { name := "fnIfsRuneIsDecodedRune", fn := fun _ => fun
  | [d1, d2] => { results := [.lit (.bool false)], args := [d1, d2] }
  | _ => none }
def FnIfsRuneIsDecodedRuneWrongFalsely : Prop := fnIfsRuneIsDecodedRuneRow.holds Try.pinned (OpenSpec.ofChange fnIfsRuneIsDecodedRuneWrong)

/-- 'n010_4.FnHasMetaKeptUnderAppend': WHATEVER THE INPUT: true; the input reads as it did. -/
def fnHasMetaKeptUnderAppendSpec : ChangeSpec := { name := "fnHasMetaKeptUnderAppend", fn := fun _ => fun
  | [d1, d2] => { results := [.lit (.bool true)], args := [d1, d2] }
  | _ => none }
def fnHasMetaKeptUnderAppendRow : OpenClaim := { program := "ytdiimpggoejphaa", sum := "1bf9284da01834ba138d456740d18bf28395ac31b5060023ef09df8f7711c2a0", func := "mvdan.cc/sh/v3/n010_4.FnHasMetaKeptUnderAppend", spec := "fnHasMetaKeptUnderAppend", apart := false }
def FnHasMetaKeptUnderAppendSaid : Prop := fnHasMetaKeptUnderAppendRow.holds Try.pinned (OpenSpec.ofChange fnHasMetaKeptUnderAppendSpec)

/-- ITS FALSE NEIGHBOUR: 'it returns false'. Refute it at one input. -/
def fnHasMetaKeptUnderAppendWrong : ChangeSpec := { name := "fnHasMetaKeptUnderAppend", fn := fun _ => fun
  | [d1, d2] => { results := [.lit (.bool false)], args := [d1, d2] }
  | _ => none }
def FnHasMetaKeptUnderAppendWrongFalsely : Prop := fnHasMetaKeptUnderAppendRow.holds Try.pinned (OpenSpec.ofChange fnHasMetaKeptUnderAppendWrong)

/- THE SECOND FORM. 'bulk': how many values and letters a reading holds, each counted each time it is reached (what is shared counts as often as it is met; a slice's spare places count too). A statement '..UptoSaid' is the law's where the arguments, and the package variables that the reading takes, are together of bulk at most 1048576: NARROWER than '..Said'. Prove '..Said' where nothing that the law and all that it calls make is longer than what came in: it says more and counts as full. Else prove '..UptoSaid'. A law counts once. -/
mutual
def uptoBulk {H : Type} : DataW H → Nat
  | .lit (.string bytes) => bytes.length + 1
  | .lit _ => 1
  | .nil => 1
  | .ptr d => uptoBulk d + 1
  | .slice elems spare => uptoBulkAll elems + uptoBulkAll spare + 1
  | .agg parts => uptoBulkAll parts + 1
  | .iface _ d => uptoBulk d + 1
  | .map entries => uptoBulkEntries entries + 1
  | .held _ => 1
def uptoBulkAll {H : Type} : List (DataW H) → Nat
  | [] => 0
  | d :: r => uptoBulk d + uptoBulkAll r
def uptoBulkEntries {H : Type} : List (Lit × DataW H) → Nat
  | [] => 0
  | x :: r => uptoBulkEntry x + uptoBulkEntries r
def uptoBulkEntry {H : Type} : Lit × DataW H → Nat
  | (.string bytes, d) => bytes.length + uptoBulk d + 1
  | (_, d) => uptoBulk d + 1
 end
def uptoSmall : (H : Type) → List (DataW H) → Bool := fun _ ds => decide (uptoBulkAll ds ≤ 1048576)
def OpenSpec.upto (s : _root_.Go.ChangeSpec) : _root_.Go.OpenSpec := { _root_.Go.OpenSpec.ofChange s with cond := some uptoSmall }

/-- 'n010_37.FnPathJoin2Associative', WHERE WHAT IT READS IS OF BULK AT MOST 1048576: true; the input reads as it did. -/
def fnPathJoin2AssociativeUptoRow : OpenClaim := { program := "ytdiimpggoejphaa", sum := "1bf9284da01834ba138d456740d18bf28395ac31b5060023ef09df8f7711c2a0", func := "mvdan.cc/sh/v3/n010_37.FnPathJoin2Associative", spec := "fnPathJoin2Associative", apart := false, narrowed := true }
def FnPathJoin2AssociativeUptoSaid : Prop := fnPathJoin2AssociativeUptoRow.holds Try.pinned (OpenSpec.upto fnPathJoin2AssociativeSpec)

/-- 'n010_163.FnIfsRuneIsDecodedRune', WHERE WHAT IT READS IS OF BULK AT MOST 1048576: true; the input reads as it did. -/
def fnIfsRuneIsDecodedRuneUptoRow : OpenClaim := { program := "ytdiimpggoejphaa", sum := "1bf9284da01834ba138d456740d18bf28395ac31b5060023ef09df8f7711c2a0", func := "mvdan.cc/sh/v3/n010_163.FnIfsRuneIsDecodedRune", spec := "fnIfsRuneIsDecodedRune", inPlace := ["internal/bytealg.IndexByteString", "internal/bytealg.IndexString"], named := ["internal/bytealg.MaxLen"], apart := false, narrowed := true }
def FnIfsRuneIsDecodedRuneUptoSaid : Prop := fnIfsRuneIsDecodedRuneUptoRow.holds Try.pinned (OpenSpec.upto fnIfsRuneIsDecodedRuneSpec)

/-- 'n010_4.FnHasMetaKeptUnderAppend', WHERE WHAT IT READS IS OF BULK AT MOST 1048576: true; the input reads as it did. -/
def fnHasMetaKeptUnderAppendUptoRow : OpenClaim := { program := "ytdiimpggoejphaa", sum := "1bf9284da01834ba138d456740d18bf28395ac31b5060023ef09df8f7711c2a0", func := "mvdan.cc/sh/v3/n010_4.FnHasMetaKeptUnderAppend", spec := "fnHasMetaKeptUnderAppend", apart := false, narrowed := true }
def FnHasMetaKeptUnderAppendUptoSaid : Prop := fnHasMetaKeptUnderAppendUptoRow.holds Try.pinned (OpenSpec.upto fnHasMetaKeptUnderAppendSpec)

end Rows
end Go.Proofs.Ytdiimpggoejphaa
