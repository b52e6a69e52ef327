/-
  DERIVED. GIVEN WITH THE SEED: THE CARDS: each row of YtmojheonollpeaaDoorRows.lean that lists a variable, with what it lists TIED to the program's text (the seventh form; the later family's looks); each row that meets fmt, with fmt's text TOLD by the authors' own Lean function (tested against real Go, not proved from fmt's source: count such statements apart). THE CARD IS WHAT COUNTS. Prove the row's statement (the work); the ties are given (YtmojheonollpeaaDoorTie.lean); close each card by the builder's one call (the guide's Derived/Test/ToyasCard.lean, 'card_holds'). Laid BY PROGRAM, IN A SANDBOX (cutbox-door.mjs). By AI agents, Wed Nov 11 2026. No macro, syntax, notation, axiom, sorry.
-/
import Derived.Test.YtmojheonollpeaaDoorRows
import GoSem.ClaimSeven
namespace Go.Proofs.YtmojheonollpeaaDoor
namespace Rows

/-- THE TIED CARD OF 'n010_88.FnIndexIsLowestSetBit'. -/
def fnIndexIsLowestSetBitCard : Claim7 := { stood := { row := fnIndexIsLowestSetBitRow, standIns := [], harness := (true, "176a1e089e34d853e051c322c440b066bd80b41e379e79af8e081b4f92d41238"), looks := false }, kinds := [], alts := [], laidByText := true, laidKinds := [.data], laidTests := true, laidLooks := .later }
def FnIndexIsLowestSetBitCardSaid : Prop := Claim7.holds Tryd.pinned (.plain (OpenSpec.ofChange fnIndexIsLowestSetBitSpec)) fnIndexIsLowestSetBitCard

/-- THE SECOND FORM's CARD OF 'n010_88.FnIndexIsLowestSetBit'. -/
def fnIndexIsLowestSetBitUptoCard : Claim7 := { stood := { row := fnIndexIsLowestSetBitUptoRow, standIns := [], harness := (true, "176a1e089e34d853e051c322c440b066bd80b41e379e79af8e081b4f92d41238"), looks := false }, kinds := [], alts := [], laidByText := true, laidKinds := [.data], laidTests := true, laidLooks := .later }
def FnIndexIsLowestSetBitUptoCardSaid : Prop := Claim7.holds Tryd.pinned (.plain (OpenSpec.upto fnIndexIsLowestSetBitSpec)) fnIndexIsLowestSetBitUptoCard
end Rows
end Go.Proofs.YtmojheonollpeaaDoor
