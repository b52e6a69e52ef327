/-
  No cell of these rows narrows 'for every input' (looked for: loops, veiled, ifaces, maps, wideKeys, modest, calm, conditions, laid).
  DERIVED. THE GIVEN ROWS OF THIS SEAT. 6 by the template 'for every input the law returns true; each argument reads behind the call as it read before'; 0 by the template 'total and deterministic' (their statements: YtmojheonollpeaaTotals.lean).
  GIVEN WITH THE SEED: the statements are not yours to turn. If you find one false, say at which input.
  Laid BY PROGRAM, IN A SANDBOX (cutbox-rows.mjs): the forced cells as the released guide's own fill.sh prints them over the translation f5f137650a7f1cb5… (all of the seat's roots in one cut). By AI agents, Wed Nov 11 2026. No macro, syntax, notation, axiom, sorry.
-/
import Derived.Test.YtmojheonollpeaaChecked
import GoSem.Claim
import GoSem.ClaimJoined
import GoSem.ClaimMapViews
import Derived.JoinedTies
import Derived.KernelRfl
namespace Go.Proofs.Ytmojheonollpeaa
/- THE CELL 'sum', in the pinned program and in every row, IS THE sha256 OF THE DUMP (.gsa) THAT YtmojheonollpeaaProg.lean LOADS. Nothing in Lean hashes anything: it is a label: what it is worth is what the hold of that sum in a sandbox is worth. -/
noncomputable def Try.pinned : Pinned := { name := "ytmojheonollpeaa", sum := "f5f137650a7f1cb5ca823ba379c428e1d31681931041e63d2ff5204c72c811b8", checked := Try.checked }
namespace Rows
def none {H : Type} : Left H := { results := [], args := [] }

/-- 'n010_88.FnCountIsPopcount': WHATEVER THE INPUT: true; the input reads as it did. -/
def fnCountIsPopcountSpec : ChangeSpec := { name := "fnCountIsPopcount", fn := fun _ => fun
  | [d] => { results := [.lit (.bool true)], args := [d] }
  | _ => none }
def fnCountIsPopcountRow : OpenClaim := { program := "ytmojheonollpeaa", sum := "f5f137650a7f1cb5ca823ba379c428e1d31681931041e63d2ff5204c72c811b8", func := "mvdan.cc/sh/v3/n010_88.FnCountIsPopcount", spec := "fnCountIsPopcount", apart := false }
def FnCountIsPopcountSaid : Prop := fnCountIsPopcountRow.holds Try.pinned (OpenSpec.ofChange fnCountIsPopcountSpec)

/-- ITS FALSE NEIGHBOUR: 'it returns false'. Refute it at one input. -/
def fnCountIsPopcountWrong : ChangeSpec := { name := "fnCountIsPopcount", fn := fun _ => fun
  | [d] => { results := [.lit (.bool false)], args := [d] }
  | _ => none }
def FnCountIsPopcountWrongFalsely : Prop := fnCountIsPopcountRow.holds Try.pinned (OpenSpec.ofChange fnCountIsPopcountWrong)

/-- 'n010_68.FnPosReencodeFixedPoint': WHATEVER THE INPUT: true; the input reads as it did. -/
def fnPosReencodeFixedPointSpec : ChangeSpec := { name := "fnPosReencodeFixedPoint", fn := fun _ => fun
  | [d1, d2, d3] => { results := [.lit (.bool true)], args := [d1, d2, d3] }
  | _ => none }
def fnPosReencodeFixedPointRow : OpenClaim := { program := "ytmojheonollpeaa", sum := "f5f137650a7f1cb5ca823ba379c428e1d31681931041e63d2ff5204c72c811b8", func := "mvdan.cc/sh/v3/n010_68.FnPosReencodeFixedPoint", spec := "fnPosReencodeFixedPoint", apart := false }
def FnPosReencodeFixedPointSaid : Prop := fnPosReencodeFixedPointRow.holds Try.pinned (OpenSpec.ofChange fnPosReencodeFixedPointSpec)

/-- ITS FALSE NEIGHBOUR: 'it returns false'. Refute it at one input. -/
def fnPosReencodeFixedPointWrong : ChangeSpec := { name := "fnPosReencodeFixedPoint", fn := fun _ => fun
  | [d1, d2, d3] => { results := [.lit (.bool false)], args := [d1, d2, d3] }
  | _ => none }
def FnPosReencodeFixedPointWrongFalsely : Prop := fnPosReencodeFixedPointRow.holds Try.pinned (OpenSpec.ofChange fnPosReencodeFixedPointWrong)

/-- 'n010_68.FnNewPosEqualExactlyWhenNormalisedEqual': WHATEVER THE INPUT: true; the input reads as it did. -/
def fnNewPosEqualExactlyWhenNormalisedEqualSpec : ChangeSpec := { name := "fnNewPosEqualExactlyWhenNormalisedEqual", fn := fun _ => fun
  | [d1, d2, d3, d4, d5, d6] => { results := [.lit (.bool true)], args := [d1, d2, d3, d4, d5, d6] }
  | _ => none }
def fnNewPosEqualExactlyWhenNormalisedEqualRow : OpenClaim := { program := "ytmojheonollpeaa", sum := "f5f137650a7f1cb5ca823ba379c428e1d31681931041e63d2ff5204c72c811b8", func := "mvdan.cc/sh/v3/n010_68.FnNewPosEqualExactlyWhenNormalisedEqual", spec := "fnNewPosEqualExactlyWhenNormalisedEqual", apart := false }
def FnNewPosEqualExactlyWhenNormalisedEqualSaid : Prop := fnNewPosEqualExactlyWhenNormalisedEqualRow.holds Try.pinned (OpenSpec.ofChange fnNewPosEqualExactlyWhenNormalisedEqualSpec)

/-- ITS FALSE NEIGHBOUR: 'it returns false'. Refute it at one input. -/
def fnNewPosEqualExactlyWhenNormalisedEqualWrong : ChangeSpec := { name := "fnNewPosEqualExactlyWhenNormalisedEqual", fn := fun _ => fun
  | [d1, d2, d3, d4, d5, d6] => { results := [.lit (.bool false)], args := [d1, d2, d3, d4, d5, d6] }
  | _ => none }
def FnNewPosEqualExactlyWhenNormalisedEqualWrongFalsely : Prop := fnNewPosEqualExactlyWhenNormalisedEqualRow.holds Try.pinned (OpenSpec.ofChange fnNewPosEqualExactlyWhenNormalisedEqualWrong)

/-- 'n010_88.FnBitsListsKnownVariantsInOrder': WHATEVER THE INPUT: true; the input reads as it did. -/
def fnBitsListsKnownVariantsInOrderSpec : ChangeSpec := { name := "fnBitsListsKnownVariantsInOrder", fn := fun _ => fun
  | [d] => { results := [.lit (.bool true)], args := [d] }
  | _ => none }
def fnBitsListsKnownVariantsInOrderRow : OpenClaim := { program := "ytmojheonollpeaa", sum := "f5f137650a7f1cb5ca823ba379c428e1d31681931041e63d2ff5204c72c811b8", func := "mvdan.cc/sh/v3/n010_88.FnBitsListsKnownVariantsInOrder", spec := "fnBitsListsKnownVariantsInOrder", unfollowed := true, recurses := true, apart := false }
def FnBitsListsKnownVariantsInOrderSaid : Prop := fnBitsListsKnownVariantsInOrderRow.holds Try.pinned (OpenSpec.ofChange fnBitsListsKnownVariantsInOrderSpec)

/-- ITS FALSE NEIGHBOUR: 'it returns false'. Refute it at one input. -/
def fnBitsListsKnownVariantsInOrderWrong : ChangeSpec := { name := "fnBitsListsKnownVariantsInOrder", fn := fun _ => fun
  | [d] => { results := [.lit (.bool false)], args := [d] }
  | _ => none }
def FnBitsListsKnownVariantsInOrderWrongFalsely : Prop := fnBitsListsKnownVariantsInOrderRow.holds Try.pinned (OpenSpec.ofChange fnBitsListsKnownVariantsInOrderWrong)

/-- 'n010_88.FnStopAtKeepsWord': WHATEVER THE INPUT: true; the input reads as it did. -/
def fnStopAtKeepsWordSpec : ChangeSpec := { name := "fnStopAtKeepsWord", fn := fun _ => fun
  | [d] => { results := [.lit (.bool true)], args := [d] }
  | _ => none }
def fnStopAtKeepsWordRow : OpenClaim := { program := "ytmojheonollpeaa", sum := "f5f137650a7f1cb5ca823ba379c428e1d31681931041e63d2ff5204c72c811b8", func := "mvdan.cc/sh/v3/n010_88.FnStopAtKeepsWord", spec := "fnStopAtKeepsWord", inPlace := ["internal/bytealg.IndexByteString", "internal/bytealg.IndexString"], unfollowed := true, recurses := true, named := ["internal/bytealg.MaxLen"], apart := false }
def FnStopAtKeepsWordSaid : Prop := fnStopAtKeepsWordRow.holds Try.pinned (OpenSpec.ofChange fnStopAtKeepsWordSpec)

/-- ITS FALSE NEIGHBOUR: 'it returns false'. Refute it at one input. -/
def fnStopAtKeepsWordWrong : ChangeSpec := { name := "fnStopAtKeepsWord", fn := fun _ => fun
  | [d] => { results := [.lit (.bool false)], args := [d] }
  | _ => none }
def FnStopAtKeepsWordWrongFalsely : Prop := fnStopAtKeepsWordRow.holds Try.pinned (OpenSpec.ofChange fnStopAtKeepsWordWrong)

/-- 'n010_68.FnLineColBoundedNeverLarger': WHATEVER THE INPUT: true; the input reads as it did. -/
def fnLineColBoundedNeverLargerSpec : ChangeSpec := { name := "fnLineColBoundedNeverLarger", fn := fun _ => fun
  | [d1, d2, d3] => { results := [.lit (.bool true)], args := [d1, d2, d3] }
  | _ => none }
def fnLineColBoundedNeverLargerRow : OpenClaim := { program := "ytmojheonollpeaa", sum := "f5f137650a7f1cb5ca823ba379c428e1d31681931041e63d2ff5204c72c811b8", func := "mvdan.cc/sh/v3/n010_68.FnLineColBoundedNeverLarger", spec := "fnLineColBoundedNeverLarger", apart := false }
def FnLineColBoundedNeverLargerSaid : Prop := fnLineColBoundedNeverLargerRow.holds Try.pinned (OpenSpec.ofChange fnLineColBoundedNeverLargerSpec)

/-- ITS FALSE NEIGHBOUR: 'it returns false'. Refute it at one input. -/
def fnLineColBoundedNeverLargerWrong : ChangeSpec := { name := "fnLineColBoundedNeverLarger", fn := fun _ => fun
  | [d1, d2, d3] => { results := [.lit (.bool false)], args := [d1, d2, d3] }
  | _ => none }
def FnLineColBoundedNeverLargerWrongFalsely : Prop := fnLineColBoundedNeverLargerRow.holds Try.pinned (OpenSpec.ofChange fnLineColBoundedNeverLargerWrong)

/- THE SECOND FORM. 'bulk': how many values and letters a reading holds, each counted each time it is reached (what is shared counts as often as it is met; a slice's spare places count too). A statement '..UptoSaid' is the law's where the arguments, and the package variables that the reading takes, are together of bulk at most 1048576: NARROWER than '..Said'. Prove '..Said' where nothing that the law and all that it calls make is longer than what came in: it says more and counts as full. Else prove '..UptoSaid'. A law counts once. -/
mutual
def uptoBulk {H : Type} : DataW H → Nat
  | .lit (.string bytes) => bytes.length + 1
  | .lit _ => 1
  | .nil => 1
  | .ptr d => uptoBulk d + 1
  | .slice elems spare => uptoBulkAll elems + uptoBulkAll spare + 1
  | .agg parts => uptoBulkAll parts + 1
  | .iface _ d => uptoBulk d + 1
  | .map entries => uptoBulkEntries entries + 1
  | .held _ => 1
def uptoBulkAll {H : Type} : List (DataW H) → Nat
  | [] => 0
  | d :: r => uptoBulk d + uptoBulkAll r
def uptoBulkEntries {H : Type} : List (Lit × DataW H) → Nat
  | [] => 0
  | x :: r => uptoBulkEntry x + uptoBulkEntries r
def uptoBulkEntry {H : Type} : Lit × DataW H → Nat
  | (.string bytes, d) => bytes.length + uptoBulk d + 1
  | (_, d) => uptoBulk d + 1
 end
def uptoSmall : (H : Type) → List (DataW H) → Bool := fun _ ds => decide (uptoBulkAll ds ≤ 1048576)
def OpenSpec.upto (s : _root_.Go.ChangeSpec) : _root_.Go.OpenSpec := { _root_.Go.OpenSpec.ofChange s with cond := some uptoSmall }

/-- 'n010_88.FnCountIsPopcount', WHERE WHAT IT READS IS OF BULK AT MOST 1048576: true; the input reads as it did. -/
def fnCountIsPopcountUptoRow : OpenClaim := { program := "ytmojheonollpeaa", sum := "f5f137650a7f1cb5ca823ba379c428e1d31681931041e63d2ff5204c72c811b8", func := "mvdan.cc/sh/v3/n010_88.FnCountIsPopcount", spec := "fnCountIsPopcount", apart := false, narrowed := true }
def FnCountIsPopcountUptoSaid : Prop := fnCountIsPopcountUptoRow.holds Try.pinned (OpenSpec.upto fnCountIsPopcountSpec)

/-- 'n010_68.FnPosReencodeFixedPoint', WHERE WHAT IT READS IS OF BULK AT MOST 1048576: true; the input reads as it did. -/
def fnPosReencodeFixedPointUptoRow : OpenClaim := { program := "ytmojheonollpeaa", sum := "f5f137650a7f1cb5ca823ba379c428e1d31681931041e63d2ff5204c72c811b8", func := "mvdan.cc/sh/v3/n010_68.FnPosReencodeFixedPoint", spec := "fnPosReencodeFixedPoint", apart := false, narrowed := true }
def FnPosReencodeFixedPointUptoSaid : Prop := fnPosReencodeFixedPointUptoRow.holds Try.pinned (OpenSpec.upto fnPosReencodeFixedPointSpec)

/-- 'n010_68.FnNewPosEqualExactlyWhenNormalisedEqual', WHERE WHAT IT READS IS OF BULK AT MOST 1048576: true; the input reads as it did. -/
def fnNewPosEqualExactlyWhenNormalisedEqualUptoRow : OpenClaim := { program := "ytmojheonollpeaa", sum := "f5f137650a7f1cb5ca823ba379c428e1d31681931041e63d2ff5204c72c811b8", func := "mvdan.cc/sh/v3/n010_68.FnNewPosEqualExactlyWhenNormalisedEqual", spec := "fnNewPosEqualExactlyWhenNormalisedEqual", apart := false, narrowed := true }
def FnNewPosEqualExactlyWhenNormalisedEqualUptoSaid : Prop := fnNewPosEqualExactlyWhenNormalisedEqualUptoRow.holds Try.pinned (OpenSpec.upto fnNewPosEqualExactlyWhenNormalisedEqualSpec)

/-- 'n010_88.FnBitsListsKnownVariantsInOrder', WHERE WHAT IT READS IS OF BULK AT MOST 1048576: true; the input reads as it did. -/
def fnBitsListsKnownVariantsInOrderUptoRow : OpenClaim := { program := "ytmojheonollpeaa", sum := "f5f137650a7f1cb5ca823ba379c428e1d31681931041e63d2ff5204c72c811b8", func := "mvdan.cc/sh/v3/n010_88.FnBitsListsKnownVariantsInOrder", spec := "fnBitsListsKnownVariantsInOrder", unfollowed := true, recurses := true, apart := false, narrowed := true }
def FnBitsListsKnownVariantsInOrderUptoSaid : Prop := fnBitsListsKnownVariantsInOrderUptoRow.holds Try.pinned (OpenSpec.upto fnBitsListsKnownVariantsInOrderSpec)

/-- 'n010_88.FnStopAtKeepsWord', WHERE WHAT IT READS IS OF BULK AT MOST 1048576: true; the input reads as it did. -/
def fnStopAtKeepsWordUptoRow : OpenClaim := { program := "ytmojheonollpeaa", sum := "f5f137650a7f1cb5ca823ba379c428e1d31681931041e63d2ff5204c72c811b8", func := "mvdan.cc/sh/v3/n010_88.FnStopAtKeepsWord", spec := "fnStopAtKeepsWord", inPlace := ["internal/bytealg.IndexByteString", "internal/bytealg.IndexString"], unfollowed := true, recurses := true, named := ["internal/bytealg.MaxLen"], apart := false, narrowed := true }
def FnStopAtKeepsWordUptoSaid : Prop := fnStopAtKeepsWordUptoRow.holds Try.pinned (OpenSpec.upto fnStopAtKeepsWordSpec)

/-- 'n010_68.FnLineColBoundedNeverLarger', WHERE WHAT IT READS IS OF BULK AT MOST 1048576: true; the input reads as it did. -/
def fnLineColBoundedNeverLargerUptoRow : OpenClaim := { program := "ytmojheonollpeaa", sum := "f5f137650a7f1cb5ca823ba379c428e1d31681931041e63d2ff5204c72c811b8", func := "mvdan.cc/sh/v3/n010_68.FnLineColBoundedNeverLarger", spec := "fnLineColBoundedNeverLarger", apart := false, narrowed := true }
def FnLineColBoundedNeverLargerUptoSaid : Prop := fnLineColBoundedNeverLargerUptoRow.holds Try.pinned (OpenSpec.upto fnLineColBoundedNeverLargerSpec)

end Rows
end Go.Proofs.Ytmojheonollpeaa
