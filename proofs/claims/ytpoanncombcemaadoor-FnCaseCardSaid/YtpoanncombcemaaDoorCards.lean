/-
  DERIVED. GIVEN WITH THE SEED: THE CARDS: each row of YtpoanncombcemaaDoorRows.lean that lists a variable, with what it lists TIED to the program's text (the seventh form; the later family's looks); each row that meets fmt, with fmt's text TOLD by the authors' own Lean function (tested against real Go, not proved from fmt's source: count such statements apart). THE CARD IS WHAT COUNTS. Prove the row's statement (the work); the ties are given (YtpoanncombcemaaDoorTie.lean); close each card by the builder's one call (the guide's Derived/Test/ToyasCard.lean, 'card_holds'). Laid BY PROGRAM, IN A SANDBOX (cutbox-door.mjs). By AI agents, Wed Nov 11 2026. No macro, syntax, notation, axiom, sorry.
-/
import Derived.Test.YtpoanncombcemaaDoorRows
import GoSem.ClaimSeven
namespace Go.Proofs.YtpoanncombcemaaDoor
namespace Rows

/-- THE TIED CARD OF 'laws.FnAlternative'. -/
def fnAlternativeCard : Claim7 := { stood := { row := fnAlternativeRow, standIns := [], harness := (true, "32bff45bf4585b13909d0ab26a1afecb07372e7146d46c2af3d274be878242f3"), looks := true }, kinds := [], alts := [], laidByText := true, laidKinds := [.data, .pinned], laidTests := true, laidLooks := .later }
def FnAlternativeCardSaid : Prop := Claim7.holds Tryd.pinned (.plain (OpenSpec.ofChange fnAlternativeSpec)) fnAlternativeCard

/-- THE TIED CARD OF 'laws.FnReverseParts'. -/
def fnReversePartsCard : Claim7 := { stood := { row := fnReversePartsRow, standIns := [], harness := (true, "32bff45bf4585b13909d0ab26a1afecb07372e7146d46c2af3d274be878242f3"), looks := true }, kinds := [], alts := [], laidByText := true, laidKinds := [.data, .pinned], laidTests := true, laidLooks := .later }
def FnReversePartsCardSaid : Prop := Claim7.holds Tryd.pinned (.plain (OpenSpec.ofChange fnReversePartsSpec)) fnReversePartsCard

/-- THE TIED CARD OF 'laws.FnMergeSame'. -/
def fnMergeSameCard : Claim7 := { stood := { row := fnMergeSameRow, standIns := [], harness := (true, "32bff45bf4585b13909d0ab26a1afecb07372e7146d46c2af3d274be878242f3"), looks := true }, kinds := [], alts := [], laidByText := true, laidKinds := [.data, .pinned], laidTests := true, laidLooks := .later }
def FnMergeSameCardSaid : Prop := Claim7.holds Tryd.pinned (.plain (OpenSpec.ofChange fnMergeSameSpec)) fnMergeSameCard

/-- THE TIED CARD OF 'laws.FnExplode'. -/
def fnExplodeCard : Claim7 := { stood := { row := fnExplodeRow, standIns := [], harness := (true, "32bff45bf4585b13909d0ab26a1afecb07372e7146d46c2af3d274be878242f3"), looks := true }, kinds := [], alts := [], laidByText := true, laidKinds := [.data, .pinned], laidTests := true, laidLooks := .later }
def FnExplodeCardSaid : Prop := Claim7.holds Tryd.pinned (.plain (OpenSpec.ofChange fnExplodeSpec)) fnExplodeCard

/-- THE TIED CARD OF 'laws.FnCase'. -/
def fnCaseCard : Claim7 := { stood := { row := fnCaseRow, standIns := [], harness := (true, "32bff45bf4585b13909d0ab26a1afecb07372e7146d46c2af3d274be878242f3"), looks := true }, kinds := [], alts := [], laidByText := true, laidKinds := [.data, .pinned], laidTests := true, laidLooks := .later }
def FnCaseCardSaid : Prop := Claim7.holds Tryd.pinned (.plain (OpenSpec.ofChange fnCaseSpec)) fnCaseCard

/-- THE SECOND FORM's CARD OF 'laws.FnAlternative'. -/
def fnAlternativeUptoCard : Claim7 := { stood := { row := fnAlternativeUptoRow, standIns := [], harness := (true, "32bff45bf4585b13909d0ab26a1afecb07372e7146d46c2af3d274be878242f3"), looks := true }, kinds := [], alts := [], laidByText := true, laidKinds := [.data, .pinned], laidTests := true, laidLooks := .later }
def FnAlternativeUptoCardSaid : Prop := Claim7.holds Tryd.pinned (.plain (OpenSpec.upto fnAlternativeSpec)) fnAlternativeUptoCard

/-- THE SECOND FORM's CARD OF 'laws.FnReverseParts'. -/
def fnReversePartsUptoCard : Claim7 := { stood := { row := fnReversePartsUptoRow, standIns := [], harness := (true, "32bff45bf4585b13909d0ab26a1afecb07372e7146d46c2af3d274be878242f3"), looks := true }, kinds := [], alts := [], laidByText := true, laidKinds := [.data, .pinned], laidTests := true, laidLooks := .later }
def FnReversePartsUptoCardSaid : Prop := Claim7.holds Tryd.pinned (.plain (OpenSpec.upto fnReversePartsSpec)) fnReversePartsUptoCard

/-- THE SECOND FORM's CARD OF 'laws.FnMergeSame'. -/
def fnMergeSameUptoCard : Claim7 := { stood := { row := fnMergeSameUptoRow, standIns := [], harness := (true, "32bff45bf4585b13909d0ab26a1afecb07372e7146d46c2af3d274be878242f3"), looks := true }, kinds := [], alts := [], laidByText := true, laidKinds := [.data, .pinned], laidTests := true, laidLooks := .later }
def FnMergeSameUptoCardSaid : Prop := Claim7.holds Tryd.pinned (.plain (OpenSpec.upto fnMergeSameSpec)) fnMergeSameUptoCard

/-- THE SECOND FORM's CARD OF 'laws.FnExplode'. -/
def fnExplodeUptoCard : Claim7 := { stood := { row := fnExplodeUptoRow, standIns := [], harness := (true, "32bff45bf4585b13909d0ab26a1afecb07372e7146d46c2af3d274be878242f3"), looks := true }, kinds := [], alts := [], laidByText := true, laidKinds := [.data, .pinned], laidTests := true, laidLooks := .later }
def FnExplodeUptoCardSaid : Prop := Claim7.holds Tryd.pinned (.plain (OpenSpec.upto fnExplodeSpec)) fnExplodeUptoCard

/-- THE SECOND FORM's CARD OF 'laws.FnCase'. -/
def fnCaseUptoCard : Claim7 := { stood := { row := fnCaseUptoRow, standIns := [], harness := (true, "32bff45bf4585b13909d0ab26a1afecb07372e7146d46c2af3d274be878242f3"), looks := true }, kinds := [], alts := [], laidByText := true, laidKinds := [.data, .pinned], laidTests := true, laidLooks := .later }
def FnCaseUptoCardSaid : Prop := Claim7.holds Tryd.pinned (.plain (OpenSpec.upto fnCaseSpec)) fnCaseUptoCard
end Rows
end Go.Proofs.YtpoanncombcemaaDoor
