/-
  No cell of these rows narrows 'for every input' (looked for: loops, veiled, ifaces, maps, wideKeys, modest, calm, conditions, laid).
  DERIVED. THE GIVEN ROWS OF THIS SEAT. 4 by the template 'for every input the law returns true; each argument reads behind the call as it read before'; 0 by the template 'total and deterministic' (their statements: YtpfbaedippghaaaTotals.lean).
  GIVEN WITH THE SEED: the statements are not yours to turn. If you find one false, say at which input.
  Laid BY PROGRAM, IN A SANDBOX (cutbox-rows.mjs): the forced cells as the released guide's own fill.sh prints them over the translation 0abcda2eea40762b… (all of the seat's roots in one cut). By AI agents, Wed Nov 11 2026. No macro, syntax, notation, axiom, sorry.
-/
import Derived.Test.YtpfbaedippghaaaChecked
import GoSem.Claim
import GoSem.ClaimJoined
import GoSem.ClaimMapViews
import Derived.JoinedTies
import Derived.KernelRfl
namespace Go.Proofs.Ytpfbaedippghaaa
/- THE CELL 'sum', in the pinned program and in every row, IS THE sha256 OF THE DUMP (.gsa) THAT YtpfbaedippghaaaProg.lean LOADS. Nothing in Lean hashes anything: it is a label: what it is worth is what the hold of that sum in a sandbox is worth. -/
noncomputable def Try.pinned : Pinned := { name := "ytpfbaedippghaaa", sum := "0abcda2eea40762b6ad2cc702d1499552075f2ddcbf3e423d2b2666aa2f342ff", checked := Try.checked }
namespace Rows
def none {H : Type} : Left H := { results := [], args := [] }

/-- 'n010_9.FnParamOpsExactSet': WHATEVER THE INPUT: true; the input reads as it did. -/
def fnParamOpsExactSetSpec : ChangeSpec := { name := "fnParamOpsExactSet", fn := fun _ => fun
  | [d] => { results := [.lit (.bool true)], args := [d] }
  | _ => none }
def fnParamOpsExactSetRow : OpenClaim := { program := "ytpfbaedippghaaa", sum := "0abcda2eea40762b6ad2cc702d1499552075f2ddcbf3e423d2b2666aa2f342ff", func := "mvdan.cc/sh/v3/n010_9.FnParamOpsExactSet", spec := "fnParamOpsExactSet", apart := false }
def FnParamOpsExactSetSaid : Prop := fnParamOpsExactSetRow.holds Try.pinned (OpenSpec.ofChange fnParamOpsExactSetSpec)

/-- ITS FALSE NEIGHBOUR: 'it returns false'. Refute it at one input. -/
def fnParamOpsExactSetWrong : ChangeSpec := { name := "fnParamOpsExactSet", fn := fun _ => fun
  | [d] => { results := [.lit (.bool false)], args := [d] }
  | _ => none }
def FnParamOpsExactSetWrongFalsely : Prop := fnParamOpsExactSetRow.holds Try.pinned (OpenSpec.ofChange fnParamOpsExactSetWrong)

/-- 'n010_9.FnRegOpsExactSet': WHATEVER THE INPUT: true; the input reads as it did. -/
def fnRegOpsExactSetSpec : ChangeSpec := { name := "fnRegOpsExactSet", fn := fun _ => fun
  | [d] => { results := [.lit (.bool true)], args := [d] }
  | _ => none }
def fnRegOpsExactSetRow : OpenClaim := { program := "ytpfbaedippghaaa", sum := "0abcda2eea40762b6ad2cc702d1499552075f2ddcbf3e423d2b2666aa2f342ff", func := "mvdan.cc/sh/v3/n010_9.FnRegOpsExactSet", spec := "fnRegOpsExactSet", apart := false }
def FnRegOpsExactSetSaid : Prop := fnRegOpsExactSetRow.holds Try.pinned (OpenSpec.ofChange fnRegOpsExactSetSpec)

/-- ITS FALSE NEIGHBOUR: 'it returns false'. Refute it at one input. -/
def fnRegOpsExactSetWrong : ChangeSpec := { name := "fnRegOpsExactSet", fn := fun _ => fun
  | [d] => { results := [.lit (.bool false)], args := [d] }
  | _ => none }
def FnRegOpsExactSetWrongFalsely : Prop := fnRegOpsExactSetRow.holds Try.pinned (OpenSpec.ofChange fnRegOpsExactSetWrong)

/-- 'n010_9.FnAsciiDigitExactDigits': WHATEVER THE INPUT: true; the input reads as it did. -/
def fnAsciiDigitExactDigitsSpec : ChangeSpec := { name := "fnAsciiDigitExactDigits", fn := fun _ => fun
  | [d] => { results := [.lit (.bool true)], args := [d] }
  | _ => none }
def fnAsciiDigitExactDigitsRow : OpenClaim := { program := "ytpfbaedippghaaa", sum := "0abcda2eea40762b6ad2cc702d1499552075f2ddcbf3e423d2b2666aa2f342ff", func := "mvdan.cc/sh/v3/n010_9.FnAsciiDigitExactDigits", spec := "fnAsciiDigitExactDigits", apart := false }
def FnAsciiDigitExactDigitsSaid : Prop := fnAsciiDigitExactDigitsRow.holds Try.pinned (OpenSpec.ofChange fnAsciiDigitExactDigitsSpec)

/-- ITS FALSE NEIGHBOUR: 'it returns false'. Refute it at one input. -/
def fnAsciiDigitExactDigitsWrong : ChangeSpec := { name := "fnAsciiDigitExactDigits", fn := fun _ => fun
  | [d] => { results := [.lit (.bool false)], args := [d] }
  | _ => none }
def FnAsciiDigitExactDigitsWrongFalsely : Prop := fnAsciiDigitExactDigitsRow.holds Try.pinned (OpenSpec.ofChange fnAsciiDigitExactDigitsWrong)

/-- 'n010_9.FnAsciiLetterExactAlphabet': WHATEVER THE INPUT: true; the input reads as it did. -/
def fnAsciiLetterExactAlphabetSpec : ChangeSpec := { name := "fnAsciiLetterExactAlphabet", fn := fun _ => fun
  | [d] => { results := [.lit (.bool true)], args := [d] }
  | _ => none }
def fnAsciiLetterExactAlphabetRow : OpenClaim := { program := "ytpfbaedippghaaa", sum := "0abcda2eea40762b6ad2cc702d1499552075f2ddcbf3e423d2b2666aa2f342ff", func := "mvdan.cc/sh/v3/n010_9.FnAsciiLetterExactAlphabet", spec := "fnAsciiLetterExactAlphabet", apart := false }
def FnAsciiLetterExactAlphabetSaid : Prop := fnAsciiLetterExactAlphabetRow.holds Try.pinned (OpenSpec.ofChange fnAsciiLetterExactAlphabetSpec)

/-- ITS FALSE NEIGHBOUR: 'it returns false'. Refute it at one input. -/
def fnAsciiLetterExactAlphabetWrong : ChangeSpec := { name := "fnAsciiLetterExactAlphabet", fn := fun _ => fun
  | [d] => { results := [.lit (.bool false)], args := [d] }
  | _ => none }
def FnAsciiLetterExactAlphabetWrongFalsely : Prop := fnAsciiLetterExactAlphabetRow.holds Try.pinned (OpenSpec.ofChange fnAsciiLetterExactAlphabetWrong)

/- THE SECOND FORM. 'bulk': how many values and letters a reading holds, each counted each time it is reached (what is shared counts as often as it is met; a slice's spare places count too). A statement '..UptoSaid' is the law's where the arguments, and the package variables that the reading takes, are together of bulk at most 1048576: NARROWER than '..Said'. Prove '..Said' where nothing that the law and all that it calls make is longer than what came in: it says more and counts as full. Else prove '..UptoSaid'. A law counts once. -/
mutual
def uptoBulk {H : Type} : DataW H → Nat
  | .lit (.string bytes) => bytes.length + 1
  | .lit _ => 1
  | .nil => 1
  | .ptr d => uptoBulk d + 1
  | .slice elems spare => uptoBulkAll elems + uptoBulkAll spare + 1
  | .agg parts => uptoBulkAll parts + 1
  | .iface _ d => uptoBulk d + 1
  | .map entries => uptoBulkEntries entries + 1
  | .held _ => 1
def uptoBulkAll {H : Type} : List (DataW H) → Nat
  | [] => 0
  | d :: r => uptoBulk d + uptoBulkAll r
def uptoBulkEntries {H : Type} : List (Lit × DataW H) → Nat
  | [] => 0
  | x :: r => uptoBulkEntry x + uptoBulkEntries r
def uptoBulkEntry {H : Type} : Lit × DataW H → Nat
  | (.string bytes, d) => bytes.length + uptoBulk d + 1
  | (_, d) => uptoBulk d + 1
 end
def uptoSmall : (H : Type) → List (DataW H) → Bool := fun _ ds => decide (uptoBulkAll ds ≤ 1048576)
def OpenSpec.upto (s : _root_.Go.ChangeSpec) : _root_.Go.OpenSpec := { _root_.Go.OpenSpec.ofChange s with cond := some uptoSmall }

/-- 'n010_9.FnParamOpsExactSet', WHERE WHAT IT READS IS OF BULK AT MOST 1048576: true; the input reads as it did. -/
def fnParamOpsExactSetUptoRow : OpenClaim := { program := "ytpfbaedippghaaa", sum := "0abcda2eea40762b6ad2cc702d1499552075f2ddcbf3e423d2b2666aa2f342ff", func := "mvdan.cc/sh/v3/n010_9.FnParamOpsExactSet", spec := "fnParamOpsExactSet", apart := false, narrowed := true }
def FnParamOpsExactSetUptoSaid : Prop := fnParamOpsExactSetUptoRow.holds Try.pinned (OpenSpec.upto fnParamOpsExactSetSpec)

/-- 'n010_9.FnRegOpsExactSet', WHERE WHAT IT READS IS OF BULK AT MOST 1048576: true; the input reads as it did. -/
def fnRegOpsExactSetUptoRow : OpenClaim := { program := "ytpfbaedippghaaa", sum := "0abcda2eea40762b6ad2cc702d1499552075f2ddcbf3e423d2b2666aa2f342ff", func := "mvdan.cc/sh/v3/n010_9.FnRegOpsExactSet", spec := "fnRegOpsExactSet", apart := false, narrowed := true }
def FnRegOpsExactSetUptoSaid : Prop := fnRegOpsExactSetUptoRow.holds Try.pinned (OpenSpec.upto fnRegOpsExactSetSpec)

/-- 'n010_9.FnAsciiDigitExactDigits', WHERE WHAT IT READS IS OF BULK AT MOST 1048576: true; the input reads as it did. -/
def fnAsciiDigitExactDigitsUptoRow : OpenClaim := { program := "ytpfbaedippghaaa", sum := "0abcda2eea40762b6ad2cc702d1499552075f2ddcbf3e423d2b2666aa2f342ff", func := "mvdan.cc/sh/v3/n010_9.FnAsciiDigitExactDigits", spec := "fnAsciiDigitExactDigits", apart := false, narrowed := true }
def FnAsciiDigitExactDigitsUptoSaid : Prop := fnAsciiDigitExactDigitsUptoRow.holds Try.pinned (OpenSpec.upto fnAsciiDigitExactDigitsSpec)

/-- 'n010_9.FnAsciiLetterExactAlphabet', WHERE WHAT IT READS IS OF BULK AT MOST 1048576: true; the input reads as it did. -/
def fnAsciiLetterExactAlphabetUptoRow : OpenClaim := { program := "ytpfbaedippghaaa", sum := "0abcda2eea40762b6ad2cc702d1499552075f2ddcbf3e423d2b2666aa2f342ff", func := "mvdan.cc/sh/v3/n010_9.FnAsciiLetterExactAlphabet", spec := "fnAsciiLetterExactAlphabet", apart := false, narrowed := true }
def FnAsciiLetterExactAlphabetUptoSaid : Prop := fnAsciiLetterExactAlphabetUptoRow.holds Try.pinned (OpenSpec.upto fnAsciiLetterExactAlphabetSpec)

end Rows
end Go.Proofs.Ytpfbaedippghaaa
