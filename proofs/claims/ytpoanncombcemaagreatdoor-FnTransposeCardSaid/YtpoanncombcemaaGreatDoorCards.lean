/-
  DERIVED. GIVEN WITH THE SEED: THE CARDS: each row of YtpoanncombcemaaGreatDoorRows.lean that lists a variable, with what it lists TIED to the program's text (the seventh form; the later family's looks); each row that meets fmt, with fmt's text TOLD by the authors' own Lean function (tested against real Go, not proved from fmt's source: count such statements apart). THE CARD IS WHAT COUNTS. Prove the row's statement (the work); the ties are given (YtpoanncombcemaaGreatDoorTie.lean); close each card by the builder's one call (the guide's Derived/Test/ToyasCard.lean, 'card_holds'). Laid BY PROGRAM, IN A SANDBOX (cutbox-door.mjs). By AI agents, Wed Nov 11 2026. No macro, syntax, notation, axiom, sorry.
-/
import Derived.Test.YtpoanncombcemaaGreatDoorRows
import GoSem.ClaimSeven
namespace Go.Proofs.YtpoanncombcemaaGreatDoor
namespace Rows

/-- THE TIED CARD OF 'laws.FnTranspose'. -/
def fnTransposeCard : Claim7 := { stood := { row := fnTransposeRow, standIns := [], harness := (true, "2422a15181c82ad9bb59d010116a7b94536a56b684a635e454763a0f04694b7e"), looks := true }, kinds := [], alts := [], laidByText := true, laidKinds := [.data, .pinned], laidTests := true, laidLooks := .later }
def FnTransposeCardSaid : Prop := Claim7.holds Tryz.pinned (.plain (OpenSpec.ofChange fnTransposeSpec)) fnTransposeCard

/-- THE TIED CARD OF 'laws.FnLength'. -/
def fnLengthCard : Claim7 := { stood := { row := fnLengthRow, standIns := [], harness := (true, "2422a15181c82ad9bb59d010116a7b94536a56b684a635e454763a0f04694b7e"), looks := true }, kinds := [], alts := [], laidByText := true, laidKinds := [.data, .pinned], laidTests := true, laidLooks := .later }
def FnLengthCardSaid : Prop := Claim7.holds Tryz.pinned (.plain (OpenSpec.ofChange fnLengthSpec)) fnLengthCard

/-- THE TIED CARD OF 'laws.FnFormatTSV'. -/
def fnFormatTSVCard : Claim7 := { stood := { row := fnFormatTSVRow, standIns := [], harness := (true, "2422a15181c82ad9bb59d010116a7b94536a56b684a635e454763a0f04694b7e"), looks := true }, kinds := [], alts := [], laidByText := true, laidKinds := [.data, .pinned], laidTests := true, laidLooks := .later }
def FnFormatTSVCardSaid : Prop := Claim7.holds Tryz.pinned (.plain (OpenSpec.ofChange fnFormatTSVSpec)) fnFormatTSVCard

/-- THE TIED CARD OF 'laws.FnTSVBack'. -/
def fnTSVBackCard : Claim7 := { stood := { row := fnTSVBackRow, standIns := [], harness := (true, "2422a15181c82ad9bb59d010116a7b94536a56b684a635e454763a0f04694b7e"), looks := true }, kinds := [], alts := [], laidByText := true, laidKinds := [.data, .pinned], laidTests := true, laidLooks := .later }
def FnTSVBackCardSaid : Prop := Claim7.holds Tryz.pinned (.plain (OpenSpec.ofChange fnTSVBackSpec)) fnTSVBackCard

/-- THE SECOND FORM's CARD OF 'laws.FnTranspose'. -/
def fnTransposeUptoCard : Claim7 := { stood := { row := fnTransposeUptoRow, standIns := [], harness := (true, "2422a15181c82ad9bb59d010116a7b94536a56b684a635e454763a0f04694b7e"), looks := true }, kinds := [], alts := [], laidByText := true, laidKinds := [.data, .pinned], laidTests := true, laidLooks := .later }
def FnTransposeUptoCardSaid : Prop := Claim7.holds Tryz.pinned (.plain (OpenSpec.upto fnTransposeSpec)) fnTransposeUptoCard

/-- THE SECOND FORM's CARD OF 'laws.FnLength'. -/
def fnLengthUptoCard : Claim7 := { stood := { row := fnLengthUptoRow, standIns := [], harness := (true, "2422a15181c82ad9bb59d010116a7b94536a56b684a635e454763a0f04694b7e"), looks := true }, kinds := [], alts := [], laidByText := true, laidKinds := [.data, .pinned], laidTests := true, laidLooks := .later }
def FnLengthUptoCardSaid : Prop := Claim7.holds Tryz.pinned (.plain (OpenSpec.upto fnLengthSpec)) fnLengthUptoCard

/-- THE SECOND FORM's CARD OF 'laws.FnFormatTSV'. -/
def fnFormatTSVUptoCard : Claim7 := { stood := { row := fnFormatTSVUptoRow, standIns := [], harness := (true, "2422a15181c82ad9bb59d010116a7b94536a56b684a635e454763a0f04694b7e"), looks := true }, kinds := [], alts := [], laidByText := true, laidKinds := [.data, .pinned], laidTests := true, laidLooks := .later }
def FnFormatTSVUptoCardSaid : Prop := Claim7.holds Tryz.pinned (.plain (OpenSpec.upto fnFormatTSVSpec)) fnFormatTSVUptoCard

/-- THE SECOND FORM's CARD OF 'laws.FnTSVBack'. -/
def fnTSVBackUptoCard : Claim7 := { stood := { row := fnTSVBackUptoRow, standIns := [], harness := (true, "2422a15181c82ad9bb59d010116a7b94536a56b684a635e454763a0f04694b7e"), looks := true }, kinds := [], alts := [], laidByText := true, laidKinds := [.data, .pinned], laidTests := true, laidLooks := .later }
def FnTSVBackUptoCardSaid : Prop := Claim7.holds Tryz.pinned (.plain (OpenSpec.upto fnTSVBackSpec)) fnTSVBackUptoCard
end Rows
end Go.Proofs.YtpoanncombcemaaGreatDoor
