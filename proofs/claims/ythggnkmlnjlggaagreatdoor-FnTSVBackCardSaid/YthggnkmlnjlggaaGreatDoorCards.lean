/-
  DERIVED. GIVEN WITH THE SEED: THE CARDS: each row of YthggnkmlnjlggaaGreatDoorRows.lean that lists a variable, with what it lists TIED to the program's text (the seventh form; the later family's looks); each row that meets fmt, with fmt's text TOLD by the authors' own Lean function (tested against real Go, not proved from fmt's source: count such statements apart). THE CARD IS WHAT COUNTS. Prove the row's statement (the work); the ties are given (YthggnkmlnjlggaaGreatDoorTie.lean); close each card by the builder's one call (the guide's Derived/Test/ToyasCard.lean, 'card_holds'). Laid BY PROGRAM, IN A SANDBOX (cutbox-door.mjs). By AI agents, Wed Nov 11 2026. No macro, syntax, notation, axiom, sorry.
-/
import Derived.Test.YthggnkmlnjlggaaGreatDoorRows
import GoSem.ClaimSeven
namespace Go.Proofs.YthggnkmlnjlggaaGreatDoor
namespace Rows

/-- THE TIED CARD OF 'laws.FnFormatTSV'. -/
def fnFormatTSVCard : Claim7 := { stood := { row := fnFormatTSVRow, standIns := [], harness := (true, "e05dc4fa39d1d027e74ac3d57352c5c190a5ab70571e6579e41c5fec7c6e1aee"), looks := true }, kinds := [], alts := [], laidByText := true, laidKinds := [.data, .pinned], laidTests := true, laidLooks := .later }
def FnFormatTSVCardSaid : Prop := Claim7.holds Tryz.pinned (.plain (OpenSpec.ofChange fnFormatTSVSpec)) fnFormatTSVCard

/-- THE TIED CARD OF 'laws.FnTSVBack'. -/
def fnTSVBackCard : Claim7 := { stood := { row := fnTSVBackRow, standIns := [], harness := (true, "e05dc4fa39d1d027e74ac3d57352c5c190a5ab70571e6579e41c5fec7c6e1aee"), looks := true }, kinds := [], alts := [], laidByText := true, laidKinds := [.data, .pinned], laidTests := true, laidLooks := .later }
def FnTSVBackCardSaid : Prop := Claim7.holds Tryz.pinned (.plain (OpenSpec.ofChange fnTSVBackSpec)) fnTSVBackCard

/-- THE SECOND FORM's CARD OF 'laws.FnFormatTSV'. -/
def fnFormatTSVUptoCard : Claim7 := { stood := { row := fnFormatTSVUptoRow, standIns := [], harness := (true, "e05dc4fa39d1d027e74ac3d57352c5c190a5ab70571e6579e41c5fec7c6e1aee"), looks := true }, kinds := [], alts := [], laidByText := true, laidKinds := [.data, .pinned], laidTests := true, laidLooks := .later }
def FnFormatTSVUptoCardSaid : Prop := Claim7.holds Tryz.pinned (.plain (OpenSpec.upto fnFormatTSVSpec)) fnFormatTSVUptoCard

/-- THE SECOND FORM's CARD OF 'laws.FnTSVBack'. -/
def fnTSVBackUptoCard : Claim7 := { stood := { row := fnTSVBackUptoRow, standIns := [], harness := (true, "e05dc4fa39d1d027e74ac3d57352c5c190a5ab70571e6579e41c5fec7c6e1aee"), looks := true }, kinds := [], alts := [], laidByText := true, laidKinds := [.data, .pinned], laidTests := true, laidLooks := .later }
def FnTSVBackUptoCardSaid : Prop := Claim7.holds Tryz.pinned (.plain (OpenSpec.upto fnTSVBackSpec)) fnTSVBackUptoCard
end Rows
end Go.Proofs.YthggnkmlnjlggaaGreatDoor
