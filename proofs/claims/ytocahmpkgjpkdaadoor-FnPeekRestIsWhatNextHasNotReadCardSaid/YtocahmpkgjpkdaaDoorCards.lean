/-
  DERIVED. GIVEN WITH THE SEED: THE CARDS: each row of YtocahmpkgjpkdaaDoorRows.lean that lists a variable, with what it lists TIED to the program's text (the seventh form; the later family's looks); each row that meets fmt, with fmt's text TOLD by the authors' own Lean function (tested against real Go, not proved from fmt's source: count such statements apart). THE CARD IS WHAT COUNTS. Prove the row's statement (the work); the ties are given (YtocahmpkgjpkdaaDoorTie.lean); close each card by the builder's one call (the guide's Derived/Test/ToyasCard.lean, 'card_holds'). Laid BY PROGRAM, IN A SANDBOX (cutbox-door.mjs). By AI agents, Wed Nov 11 2026. No macro, syntax, notation, axiom, sorry.
-/
import Derived.Test.YtocahmpkgjpkdaaDoorRows
import GoSem.ClaimSeven
namespace Go.Proofs.YtocahmpkgjpkdaaDoor
namespace Rows

/-- THE TIED CARD OF 'n010_127.FnPeekRestIsWhatNextHasNotRead'. -/
def fnPeekRestIsWhatNextHasNotReadCard : Claim7 := { stood := { row := fnPeekRestIsWhatNextHasNotReadRow, standIns := [], harness := (true, "555462365118e6308a8f0ba2649284c68b4b71e2b17862525c252f043999a963"), looks := false }, kinds := [], alts := [], laidByText := true, laidKinds := [.data, .pinned], laidTests := true, laidLooks := .later }
def FnPeekRestIsWhatNextHasNotReadCardSaid : Prop := Claim7.holds Tryd.pinned (.plain (OpenSpec.ofChange fnPeekRestIsWhatNextHasNotReadSpec)) fnPeekRestIsWhatNextHasNotReadCard

/-- THE SECOND FORM's CARD OF 'n010_127.FnPeekRestIsWhatNextHasNotRead'. -/
def fnPeekRestIsWhatNextHasNotReadUptoCard : Claim7 := { stood := { row := fnPeekRestIsWhatNextHasNotReadUptoRow, standIns := [], harness := (true, "555462365118e6308a8f0ba2649284c68b4b71e2b17862525c252f043999a963"), looks := false }, kinds := [], alts := [], laidByText := true, laidKinds := [.data, .pinned], laidTests := true, laidLooks := .later }
def FnPeekRestIsWhatNextHasNotReadUptoCardSaid : Prop := Claim7.holds Tryd.pinned (.plain (OpenSpec.upto fnPeekRestIsWhatNextHasNotReadSpec)) fnPeekRestIsWhatNextHasNotReadUptoCard
end Rows
end Go.Proofs.YtocahmpkgjpkdaaDoor
