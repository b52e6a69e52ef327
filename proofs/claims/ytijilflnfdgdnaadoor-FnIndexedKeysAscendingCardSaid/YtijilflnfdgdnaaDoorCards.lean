/-
  DERIVED. GIVEN WITH THE SEED: THE CARDS: each row of YtijilflnfdgdnaaDoorRows.lean that lists a variable, with what it lists TIED to the program's text (the seventh form; the later family's looks); each row that meets fmt, with fmt's text TOLD by the authors' own Lean function (tested against real Go, not proved from fmt's source: count such statements apart). THE CARD IS WHAT COUNTS. Prove the row's statement (the work); the ties are given (YtijilflnfdgdnaaDoorTie.lean); close each card by the builder's one call (the guide's Derived/Test/ToyasCard.lean, 'card_holds'). Laid BY PROGRAM, IN A SANDBOX (cutbox-door.mjs). By AI agents, Wed Nov 11 2026. No macro, syntax, notation, axiom, sorry.
-/
import Derived.Test.YtijilflnfdgdnaaDoorRows
import GoSem.ClaimSeven
namespace Go.Proofs.YtijilflnfdgdnaaDoor
namespace Rows

/-- THE TIED CARD OF 'n010_40.FnIndexedKeysAscending'. -/
def fnIndexedKeysAscendingCard : Claim7 := { stood := { row := fnIndexedKeysAscendingRow, standIns := [], harness := (true, "213273e59ae9680aacc2a79322056ec932420f658412cb99eaa674f4ab457d04"), looks := false }, kinds := [], alts := [], laidByText := true, laidKinds := [.data, .data, .data], laidTests := true, laidLooks := .later }
def FnIndexedKeysAscendingCardSaid : Prop := Claim7.holds Tryd.pinned (.plain (OpenSpec.ofChange fnIndexedKeysAscendingSpec)) fnIndexedKeysAscendingCard

/-- THE SECOND FORM's CARD OF 'n010_40.FnIndexedKeysAscending'. -/
def fnIndexedKeysAscendingUptoCard : Claim7 := { stood := { row := fnIndexedKeysAscendingUptoRow, standIns := [], harness := (true, "213273e59ae9680aacc2a79322056ec932420f658412cb99eaa674f4ab457d04"), looks := false }, kinds := [], alts := [], laidByText := true, laidKinds := [.data, .data, .data], laidTests := true, laidLooks := .later }
def FnIndexedKeysAscendingUptoCardSaid : Prop := Claim7.holds Tryd.pinned (.plain (OpenSpec.upto fnIndexedKeysAscendingSpec)) fnIndexedKeysAscendingUptoCard
end Rows
end Go.Proofs.YtijilflnfdgdnaaDoor
