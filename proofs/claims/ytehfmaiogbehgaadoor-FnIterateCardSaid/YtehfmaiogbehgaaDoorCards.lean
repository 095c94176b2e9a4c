/-
  DERIVED. GIVEN WITH THE SEED: THE CARDS: each row of YtehfmaiogbehgaaDoorRows.lean that lists a variable, with what it lists TIED to the program's text (the seventh form; the later family's looks); each row that meets fmt, with fmt's text TOLD by the authors' own Lean function (tested against real Go, not proved from fmt's source: count such statements apart). THE CARD IS WHAT COUNTS. Prove the row's statement (the work); the ties are given (YtehfmaiogbehgaaDoorTie.lean); close each card by the builder's one call (the guide's Derived/Test/ToyasCard.lean, 'card_holds'). Laid BY PROGRAM, IN A SANDBOX (cutbox-door.mjs). By AI agents, Wed Nov 11 2026. No macro, syntax, notation, axiom, sorry.
-/
import Derived.Test.YtehfmaiogbehgaaDoorRows
import GoSem.ClaimSeven
namespace Go.Proofs.YtehfmaiogbehgaaDoor
namespace Rows

/-- THE TIED CARD OF 'laws.FnIterate'. -/
def fnIterateCard : Claim7 := { stood := { row := fnIterateRow, standIns := [], harness := (true, "07e603ac5251e259ffbad9fe5262a2035227457d5852c0e5b390992591ae6b7c"), looks := true }, kinds := [], alts := [], laidByText := true, laidKinds := [.data, .pinned], laidTests := true, laidLooks := .later }
def FnIterateCardSaid : Prop := Claim7.holds Tryd.pinned (.plain (OpenSpec.ofChange fnIterateSpec)) fnIterateCard

/-- THE SECOND FORM's CARD OF 'laws.FnIterate'. -/
def fnIterateUptoCard : Claim7 := { stood := { row := fnIterateUptoRow, standIns := [], harness := (true, "07e603ac5251e259ffbad9fe5262a2035227457d5852c0e5b390992591ae6b7c"), looks := true }, kinds := [], alts := [], laidByText := true, laidKinds := [.data, .pinned], laidTests := true, laidLooks := .later }
def FnIterateUptoCardSaid : Prop := Claim7.holds Tryd.pinned (.plain (OpenSpec.upto fnIterateSpec)) fnIterateUptoCard
end Rows
end Go.Proofs.YtehfmaiogbehgaaDoor
