/-
  DERIVED. GIVEN WITH THE SEED: THE CARDS: each row of YtdiimpggoejphaaDoorRows.lean that lists a variable, with what it lists TIED to the program's text (the seventh form; the later family's looks); each row that meets fmt, with fmt's text TOLD by the authors' own Lean function (tested against real Go, not proved from fmt's source: count such statements apart). THE CARD IS WHAT COUNTS. Prove the row's statement (the work); the ties are given (YtdiimpggoejphaaDoorTie.lean); close each card by the builder's one call (the guide's Derived/Test/ToyasCard.lean, 'card_holds'). Laid BY PROGRAM, IN A SANDBOX (cutbox-door.mjs). By AI agents, Wed Nov 11 2026. No macro, syntax, notation, axiom, sorry.
-/
import Derived.Test.YtdiimpggoejphaaDoorRows
import GoSem.ClaimSeven
namespace Go.Proofs.YtdiimpggoejphaaDoor
namespace Rows

/-- THE TIED CARD OF 'n010_50.FnCompareCaseInsensitiveFoldsASCII'. -/
def fnCompareCaseInsensitiveFoldsASCIICard : Claim7 := { stood := { row := fnCompareCaseInsensitiveFoldsASCIIRow, standIns := [], harness := (true, "f704eb7e871c87b56874f97f94fce9122954cbc7b5ca557930ab8b8b05c5d767"), looks := false }, kinds := [], alts := [], laidByText := true, laidKinds := [.data, .pinned, .pinned], laidTests := true, laidLooks := .later }
def FnCompareCaseInsensitiveFoldsASCIICardSaid : Prop := Claim7.holds Tryd.pinned (.plain (OpenSpec.ofChange fnCompareCaseInsensitiveFoldsASCIISpec)) fnCompareCaseInsensitiveFoldsASCIICard

/-- THE TIED CARD OF 'n010_163.FnIfsJoinModel'. -/
def fnIfsJoinModelCard : Claim7 := { stood := { row := fnIfsJoinModelRow, standIns := [], harness := (true, "f704eb7e871c87b56874f97f94fce9122954cbc7b5ca557930ab8b8b05c5d767"), looks := false }, kinds := [], alts := [], laidByText := true, laidKinds := [.data, .pinned], laidTests := true, laidLooks := .later }
def FnIfsJoinModelCardSaid : Prop := Claim7.holds Tryd.pinned (.plain (OpenSpec.ofChange fnIfsJoinModelSpec)) fnIfsJoinModelCard

/-- THE SECOND FORM's CARD OF 'n010_50.FnCompareCaseInsensitiveFoldsASCII'. -/
def fnCompareCaseInsensitiveFoldsASCIIUptoCard : Claim7 := { stood := { row := fnCompareCaseInsensitiveFoldsASCIIUptoRow, standIns := [], harness := (true, "f704eb7e871c87b56874f97f94fce9122954cbc7b5ca557930ab8b8b05c5d767"), looks := false }, kinds := [], alts := [], laidByText := true, laidKinds := [.data, .pinned, .pinned], laidTests := true, laidLooks := .later }
def FnCompareCaseInsensitiveFoldsASCIIUptoCardSaid : Prop := Claim7.holds Tryd.pinned (.plain (OpenSpec.upto fnCompareCaseInsensitiveFoldsASCIISpec)) fnCompareCaseInsensitiveFoldsASCIIUptoCard

/-- THE SECOND FORM's CARD OF 'n010_163.FnIfsJoinModel'. -/
def fnIfsJoinModelUptoCard : Claim7 := { stood := { row := fnIfsJoinModelUptoRow, standIns := [], harness := (true, "f704eb7e871c87b56874f97f94fce9122954cbc7b5ca557930ab8b8b05c5d767"), looks := false }, kinds := [], alts := [], laidByText := true, laidKinds := [.data, .pinned], laidTests := true, laidLooks := .later }
def FnIfsJoinModelUptoCardSaid : Prop := Claim7.holds Tryd.pinned (.plain (OpenSpec.upto fnIfsJoinModelSpec)) fnIfsJoinModelUptoCard
end Rows
end Go.Proofs.YtdiimpggoejphaaDoor
