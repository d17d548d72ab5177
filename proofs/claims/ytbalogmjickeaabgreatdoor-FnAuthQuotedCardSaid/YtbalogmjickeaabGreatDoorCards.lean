/-
  DERIVED. GIVEN WITH THE SEED: THE CARDS: each row of YtbalogmjickeaabGreatDoorRows.lean that lists a variable, with what it lists TIED to the program's text (the seventh form; the later family's looks); each row that meets fmt, with fmt's text TOLD by the authors' own Lean function (tested against real Go, not proved from fmt's source: count such statements apart). THE CARD IS WHAT COUNTS. Prove the row's statement (the work); the ties are given (YtbalogmjickeaabGreatDoorTie.lean); close each card by the builder's one call (the guide's Derived/Test/ToyasCard.lean, 'card_holds'). Laid BY PROGRAM, IN A SANDBOX (cutbox-door.mjs). By AI agents, Wed Nov 11 2026. No macro, syntax, notation, axiom, sorry.
-/
import Derived.Test.YtbalogmjickeaabGreatDoorRows
import GoSem.ClaimSeven
namespace Go.Proofs.YtbalogmjickeaabGreatDoor
namespace Rows

/-- THE TIED CARD OF 'laws.FnAuthVersion'. -/
def fnAuthVersionCard : Claim7 := { stood := { row := fnAuthVersionRow, standIns := [], harness := (true, "0212d9ee4b8acbb3fc390ee8028c026d97b5a6e245ebe1a551e58daa8cf189f8"), looks := true }, kinds := [], alts := [], laidByText := true, laidKinds := [.data, .data, .data, .sentinel, .sentinel, .sentinel], laidTests := true, laidLooks := .later }
def FnAuthVersionCardSaid : Prop := Claim7.holds Tryz.pinned (.plain (OpenSpec.ofChange fnAuthVersionSpec)) fnAuthVersionCard

/-- THE TIED CARD OF 'laws.FnAuthBack'. -/
def fnAuthBackCard : Claim7 := { stood := { row := fnAuthBackRow, standIns := [], harness := (true, "0212d9ee4b8acbb3fc390ee8028c026d97b5a6e245ebe1a551e58daa8cf189f8"), looks := true }, kinds := [], alts := [], laidByText := true, laidKinds := [.data, .data, .data, .sentinel, .sentinel, .sentinel], laidTests := true, laidLooks := .later }
def FnAuthBackCardSaid : Prop := Claim7.holds Tryz.pinned (.plain (OpenSpec.ofChange fnAuthBackSpec)) fnAuthBackCard

/-- THE TIED CARD OF 'laws.FnAuthFormats'. -/
def fnAuthFormatsCard : Claim7 := { stood := { row := fnAuthFormatsRow, standIns := [], harness := (true, "0212d9ee4b8acbb3fc390ee8028c026d97b5a6e245ebe1a551e58daa8cf189f8"), looks := true }, kinds := [], alts := [], laidByText := true, laidKinds := [.data, .data, .data, .sentinel, .sentinel, .sentinel], laidTests := true, laidLooks := .later }
def FnAuthFormatsCardSaid : Prop := Claim7.holds Tryz.pinned (.plain (OpenSpec.ofChange fnAuthFormatsSpec)) fnAuthFormatsCard

/-- THE TIED CARD OF 'laws.FnAuthNone'. -/
def fnAuthNoneCard : Claim7 := { stood := { row := fnAuthNoneRow, standIns := [], harness := (true, "0212d9ee4b8acbb3fc390ee8028c026d97b5a6e245ebe1a551e58daa8cf189f8"), looks := true }, kinds := [], alts := [], laidByText := true, laidKinds := [.data, .data, .data, .sentinel, .sentinel, .sentinel], laidTests := true, laidLooks := .later }
def FnAuthNoneCardSaid : Prop := Claim7.holds Tryz.pinned (.plain (OpenSpec.ofChange fnAuthNoneSpec)) fnAuthNoneCard

/-- THE TIED CARD OF 'laws.FnAuthQuoted'. -/
def fnAuthQuotedCard : Claim7 := { stood := { row := fnAuthQuotedRow, standIns := [], harness := (true, "0212d9ee4b8acbb3fc390ee8028c026d97b5a6e245ebe1a551e58daa8cf189f8"), looks := true }, kinds := [], alts := [], laidByText := true, laidKinds := [.data, .data, .data, .sentinel, .sentinel, .sentinel], laidTests := true, laidLooks := .later }
def FnAuthQuotedCardSaid : Prop := Claim7.holds Tryz.pinned (.plain (OpenSpec.ofChange fnAuthQuotedSpec)) fnAuthQuotedCard

/-- THE TIED CARD OF 'laws.FnAuthStable'. -/
def fnAuthStableCard : Claim7 := { stood := { row := fnAuthStableRow, standIns := [], harness := (true, "0212d9ee4b8acbb3fc390ee8028c026d97b5a6e245ebe1a551e58daa8cf189f8"), looks := true }, kinds := [], alts := [], laidByText := true, laidKinds := [.data, .data, .data, .sentinel, .sentinel, .sentinel], laidTests := true, laidLooks := .later }
def FnAuthStableCardSaid : Prop := Claim7.holds Tryz.pinned (.plain (OpenSpec.ofChange fnAuthStableSpec)) fnAuthStableCard

/-- THE SECOND FORM's CARD OF 'laws.FnAuthVersion'. -/
def fnAuthVersionUptoCard : Claim7 := { stood := { row := fnAuthVersionUptoRow, standIns := [], harness := (true, "0212d9ee4b8acbb3fc390ee8028c026d97b5a6e245ebe1a551e58daa8cf189f8"), looks := true }, kinds := [], alts := [], laidByText := true, laidKinds := [.data, .data, .data, .sentinel, .sentinel, .sentinel], laidTests := true, laidLooks := .later }
def FnAuthVersionUptoCardSaid : Prop := Claim7.holds Tryz.pinned (.plain (OpenSpec.upto fnAuthVersionSpec)) fnAuthVersionUptoCard

/-- THE SECOND FORM's CARD OF 'laws.FnAuthBack'. -/
def fnAuthBackUptoCard : Claim7 := { stood := { row := fnAuthBackUptoRow, standIns := [], harness := (true, "0212d9ee4b8acbb3fc390ee8028c026d97b5a6e245ebe1a551e58daa8cf189f8"), looks := true }, kinds := [], alts := [], laidByText := true, laidKinds := [.data, .data, .data, .sentinel, .sentinel, .sentinel], laidTests := true, laidLooks := .later }
def FnAuthBackUptoCardSaid : Prop := Claim7.holds Tryz.pinned (.plain (OpenSpec.upto fnAuthBackSpec)) fnAuthBackUptoCard

/-- THE SECOND FORM's CARD OF 'laws.FnAuthFormats'. -/
def fnAuthFormatsUptoCard : Claim7 := { stood := { row := fnAuthFormatsUptoRow, standIns := [], harness := (true, "0212d9ee4b8acbb3fc390ee8028c026d97b5a6e245ebe1a551e58daa8cf189f8"), looks := true }, kinds := [], alts := [], laidByText := true, laidKinds := [.data, .data, .data, .sentinel, .sentinel, .sentinel], laidTests := true, laidLooks := .later }
def FnAuthFormatsUptoCardSaid : Prop := Claim7.holds Tryz.pinned (.plain (OpenSpec.upto fnAuthFormatsSpec)) fnAuthFormatsUptoCard

/-- THE SECOND FORM's CARD OF 'laws.FnAuthNone'. -/
def fnAuthNoneUptoCard : Claim7 := { stood := { row := fnAuthNoneUptoRow, standIns := [], harness := (true, "0212d9ee4b8acbb3fc390ee8028c026d97b5a6e245ebe1a551e58daa8cf189f8"), looks := true }, kinds := [], alts := [], laidByText := true, laidKinds := [.data, .data, .data, .sentinel, .sentinel, .sentinel], laidTests := true, laidLooks := .later }
def FnAuthNoneUptoCardSaid : Prop := Claim7.holds Tryz.pinned (.plain (OpenSpec.upto fnAuthNoneSpec)) fnAuthNoneUptoCard

/-- THE SECOND FORM's CARD OF 'laws.FnAuthQuoted'. -/
def fnAuthQuotedUptoCard : Claim7 := { stood := { row := fnAuthQuotedUptoRow, standIns := [], harness := (true, "0212d9ee4b8acbb3fc390ee8028c026d97b5a6e245ebe1a551e58daa8cf189f8"), looks := true }, kinds := [], alts := [], laidByText := true, laidKinds := [.data, .data, .data, .sentinel, .sentinel, .sentinel], laidTests := true, laidLooks := .later }
def FnAuthQuotedUptoCardSaid : Prop := Claim7.holds Tryz.pinned (.plain (OpenSpec.upto fnAuthQuotedSpec)) fnAuthQuotedUptoCard

/-- THE SECOND FORM's CARD OF 'laws.FnAuthStable'. -/
def fnAuthStableUptoCard : Claim7 := { stood := { row := fnAuthStableUptoRow, standIns := [], harness := (true, "0212d9ee4b8acbb3fc390ee8028c026d97b5a6e245ebe1a551e58daa8cf189f8"), looks := true }, kinds := [], alts := [], laidByText := true, laidKinds := [.data, .data, .data, .sentinel, .sentinel, .sentinel], laidTests := true, laidLooks := .later }
def FnAuthStableUptoCardSaid : Prop := Claim7.holds Tryz.pinned (.plain (OpenSpec.upto fnAuthStableSpec)) fnAuthStableUptoCard
end Rows
end Go.Proofs.YtbalogmjickeaabGreatDoor
