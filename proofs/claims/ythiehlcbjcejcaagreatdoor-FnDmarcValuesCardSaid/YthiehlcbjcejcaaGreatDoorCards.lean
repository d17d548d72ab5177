/-
  DERIVED. GIVEN WITH THE SEED: THE CARDS: each row of YthiehlcbjcejcaaGreatDoorRows.lean that lists a variable, with what it lists TIED to the program's text (the seventh form; the later family's looks); each row that meets fmt, with fmt's text TOLD by the authors' own Lean function (tested against real Go, not proved from fmt's source: count such statements apart). THE CARD IS WHAT COUNTS. Prove the row's statement (the work); the ties are given (YthiehlcbjcejcaaGreatDoorTie.lean); close each card by the builder's one call (the guide's Derived/Test/ToyasCard.lean, 'card_holds'). Laid BY PROGRAM, IN A SANDBOX (cutbox-door.mjs). By AI agents, Wed Nov 11 2026. No macro, syntax, notation, axiom, sorry.
-/
import Derived.Test.YthiehlcbjcejcaaGreatDoorRows
import GoSem.ClaimSeven
namespace Go.Proofs.YthiehlcbjcejcaaGreatDoor
namespace Rows

/-- THE TIED CARD OF 'laws.FnDmarcApart'. -/
def fnDmarcApartCard : Claim7 := { stood := { row := fnDmarcApartRow, standIns := [], harness := (true, "75a7940dd66626ebba83bc0b5c7a9317750c697d5f4c70bf46738e35701c06bb"), looks := true }, kinds := [], alts := [], laidByText := true, laidKinds := [.data, .data, .data, .sentinel, .sentinel, .sentinel], laidTests := true, laidLooks := .later }
def FnDmarcApartCardSaid : Prop := Claim7.holds Tryz.pinned (.plain (OpenSpec.ofChange fnDmarcApartSpec)) fnDmarcApartCard

/-- THE TIED CARD OF 'laws.FnDmarcDefaults'. -/
def fnDmarcDefaultsCard : Claim7 := { stood := { row := fnDmarcDefaultsRow, standIns := [], harness := (true, "75a7940dd66626ebba83bc0b5c7a9317750c697d5f4c70bf46738e35701c06bb"), looks := true }, kinds := [], alts := [], laidByText := true, laidKinds := [.data, .data, .data, .sentinel, .sentinel, .sentinel], laidTests := true, laidLooks := .later }
def FnDmarcDefaultsCardSaid : Prop := Claim7.holds Tryz.pinned (.plain (OpenSpec.ofChange fnDmarcDefaultsSpec)) fnDmarcDefaultsCard

/-- THE TIED CARD OF 'laws.FnDmarcOrder'. -/
def fnDmarcOrderCard : Claim7 := { stood := { row := fnDmarcOrderRow, standIns := [], harness := (true, "75a7940dd66626ebba83bc0b5c7a9317750c697d5f4c70bf46738e35701c06bb"), looks := true }, kinds := [], alts := [], laidByText := true, laidKinds := [.data, .data, .data, .sentinel, .sentinel, .sentinel], laidTests := true, laidLooks := .later }
def FnDmarcOrderCardSaid : Prop := Claim7.holds Tryz.pinned (.plain (OpenSpec.ofChange fnDmarcOrderSpec)) fnDmarcOrderCard

/-- THE TIED CARD OF 'laws.FnDmarcParses'. -/
def fnDmarcParsesCard : Claim7 := { stood := { row := fnDmarcParsesRow, standIns := [], harness := (true, "75a7940dd66626ebba83bc0b5c7a9317750c697d5f4c70bf46738e35701c06bb"), looks := true }, kinds := [], alts := [], laidByText := true, laidKinds := [.data, .data, .data, .sentinel, .sentinel, .sentinel], laidTests := true, laidLooks := .later }
def FnDmarcParsesCardSaid : Prop := Claim7.holds Tryz.pinned (.plain (OpenSpec.ofChange fnDmarcParsesSpec)) fnDmarcParsesCard

/-- THE TIED CARD OF 'laws.FnDmarcReads'. -/
def fnDmarcReadsCard : Claim7 := { stood := { row := fnDmarcReadsRow, standIns := [], harness := (true, "75a7940dd66626ebba83bc0b5c7a9317750c697d5f4c70bf46738e35701c06bb"), looks := true }, kinds := [], alts := [], laidByText := true, laidKinds := [.data, .data, .data, .sentinel, .sentinel, .sentinel], laidTests := true, laidLooks := .later }
def FnDmarcReadsCardSaid : Prop := Claim7.holds Tryz.pinned (.plain (OpenSpec.ofChange fnDmarcReadsSpec)) fnDmarcReadsCard

/-- THE TIED CARD OF 'laws.FnDmarcSpaces'. -/
def fnDmarcSpacesCard : Claim7 := { stood := { row := fnDmarcSpacesRow, standIns := [], harness := (true, "75a7940dd66626ebba83bc0b5c7a9317750c697d5f4c70bf46738e35701c06bb"), looks := true }, kinds := [], alts := [], laidByText := true, laidKinds := [.data, .data, .data, .sentinel, .sentinel, .sentinel], laidTests := true, laidLooks := .later }
def FnDmarcSpacesCardSaid : Prop := Claim7.holds Tryz.pinned (.plain (OpenSpec.ofChange fnDmarcSpacesSpec)) fnDmarcSpacesCard

/-- THE TIED CARD OF 'laws.FnDmarcUnknown'. -/
def fnDmarcUnknownCard : Claim7 := { stood := { row := fnDmarcUnknownRow, standIns := [], harness := (true, "75a7940dd66626ebba83bc0b5c7a9317750c697d5f4c70bf46738e35701c06bb"), looks := true }, kinds := [], alts := [], laidByText := true, laidKinds := [.data, .data, .data, .sentinel, .sentinel, .sentinel], laidTests := true, laidLooks := .later }
def FnDmarcUnknownCardSaid : Prop := Claim7.holds Tryz.pinned (.plain (OpenSpec.ofChange fnDmarcUnknownSpec)) fnDmarcUnknownCard

/-- THE TIED CARD OF 'laws.FnDmarcValues'. -/
def fnDmarcValuesCard : Claim7 := { stood := { row := fnDmarcValuesRow, standIns := [], harness := (true, "75a7940dd66626ebba83bc0b5c7a9317750c697d5f4c70bf46738e35701c06bb"), looks := true }, kinds := [], alts := [], laidByText := true, laidKinds := [.data, .data, .data, .sentinel, .sentinel, .sentinel], laidTests := true, laidLooks := .later }
def FnDmarcValuesCardSaid : Prop := Claim7.holds Tryz.pinned (.plain (OpenSpec.ofChange fnDmarcValuesSpec)) fnDmarcValuesCard

/-- THE TIED CARD OF 'laws.FnDmarcWanting'. -/
def fnDmarcWantingCard : Claim7 := { stood := { row := fnDmarcWantingRow, standIns := [], harness := (true, "75a7940dd66626ebba83bc0b5c7a9317750c697d5f4c70bf46738e35701c06bb"), looks := true }, kinds := [], alts := [], laidByText := true, laidKinds := [.data, .data, .data, .sentinel, .sentinel, .sentinel], laidTests := true, laidLooks := .later }
def FnDmarcWantingCardSaid : Prop := Claim7.holds Tryz.pinned (.plain (OpenSpec.ofChange fnDmarcWantingSpec)) fnDmarcWantingCard

/-- THE TIED CARD OF 'laws.FnDmarcAmong'. -/
def fnDmarcAmongCard : Claim7 := { stood := { row := fnDmarcAmongRow, standIns := [], harness := (true, "75a7940dd66626ebba83bc0b5c7a9317750c697d5f4c70bf46738e35701c06bb"), looks := true }, kinds := [], alts := [], laidByText := true, laidKinds := [.data, .data, .data, .sentinel, .sentinel, .sentinel, .sentinel], laidTests := true, laidLooks := .later }
def FnDmarcAmongCardSaid : Prop := Claim7.holds Tryz.pinned (.plain (OpenSpec.ofChange fnDmarcAmongSpec)) fnDmarcAmongCard

/-- THE TIED CARD OF 'laws.FnDmarcLookup'. -/
def fnDmarcLookupCard : Claim7 := { stood := { row := fnDmarcLookupRow, standIns := [], harness := (true, "75a7940dd66626ebba83bc0b5c7a9317750c697d5f4c70bf46738e35701c06bb"), looks := true }, kinds := [], alts := [], laidByText := true, laidKinds := [.data, .data, .data, .sentinel, .sentinel, .sentinel, .sentinel], laidTests := true, laidLooks := .later }
def FnDmarcLookupCardSaid : Prop := Claim7.holds Tryz.pinned (.plain (OpenSpec.ofChange fnDmarcLookupSpec)) fnDmarcLookupCard

/-- THE SECOND FORM's CARD OF 'laws.FnDmarcApart'. -/
def fnDmarcApartUptoCard : Claim7 := { stood := { row := fnDmarcApartUptoRow, standIns := [], harness := (true, "75a7940dd66626ebba83bc0b5c7a9317750c697d5f4c70bf46738e35701c06bb"), looks := true }, kinds := [], alts := [], laidByText := true, laidKinds := [.data, .data, .data, .sentinel, .sentinel, .sentinel], laidTests := true, laidLooks := .later }
def FnDmarcApartUptoCardSaid : Prop := Claim7.holds Tryz.pinned (.plain (OpenSpec.upto fnDmarcApartSpec)) fnDmarcApartUptoCard

/-- THE SECOND FORM's CARD OF 'laws.FnDmarcDefaults'. -/
def fnDmarcDefaultsUptoCard : Claim7 := { stood := { row := fnDmarcDefaultsUptoRow, standIns := [], harness := (true, "75a7940dd66626ebba83bc0b5c7a9317750c697d5f4c70bf46738e35701c06bb"), looks := true }, kinds := [], alts := [], laidByText := true, laidKinds := [.data, .data, .data, .sentinel, .sentinel, .sentinel], laidTests := true, laidLooks := .later }
def FnDmarcDefaultsUptoCardSaid : Prop := Claim7.holds Tryz.pinned (.plain (OpenSpec.upto fnDmarcDefaultsSpec)) fnDmarcDefaultsUptoCard

/-- THE SECOND FORM's CARD OF 'laws.FnDmarcOrder'. -/
def fnDmarcOrderUptoCard : Claim7 := { stood := { row := fnDmarcOrderUptoRow, standIns := [], harness := (true, "75a7940dd66626ebba83bc0b5c7a9317750c697d5f4c70bf46738e35701c06bb"), looks := true }, kinds := [], alts := [], laidByText := true, laidKinds := [.data, .data, .data, .sentinel, .sentinel, .sentinel], laidTests := true, laidLooks := .later }
def FnDmarcOrderUptoCardSaid : Prop := Claim7.holds Tryz.pinned (.plain (OpenSpec.upto fnDmarcOrderSpec)) fnDmarcOrderUptoCard

/-- THE SECOND FORM's CARD OF 'laws.FnDmarcParses'. -/
def fnDmarcParsesUptoCard : Claim7 := { stood := { row := fnDmarcParsesUptoRow, standIns := [], harness := (true, "75a7940dd66626ebba83bc0b5c7a9317750c697d5f4c70bf46738e35701c06bb"), looks := true }, kinds := [], alts := [], laidByText := true, laidKinds := [.data, .data, .data, .sentinel, .sentinel, .sentinel], laidTests := true, laidLooks := .later }
def FnDmarcParsesUptoCardSaid : Prop := Claim7.holds Tryz.pinned (.plain (OpenSpec.upto fnDmarcParsesSpec)) fnDmarcParsesUptoCard

/-- THE SECOND FORM's CARD OF 'laws.FnDmarcReads'. -/
def fnDmarcReadsUptoCard : Claim7 := { stood := { row := fnDmarcReadsUptoRow, standIns := [], harness := (true, "75a7940dd66626ebba83bc0b5c7a9317750c697d5f4c70bf46738e35701c06bb"), looks := true }, kinds := [], alts := [], laidByText := true, laidKinds := [.data, .data, .data, .sentinel, .sentinel, .sentinel], laidTests := true, laidLooks := .later }
def FnDmarcReadsUptoCardSaid : Prop := Claim7.holds Tryz.pinned (.plain (OpenSpec.upto fnDmarcReadsSpec)) fnDmarcReadsUptoCard

/-- THE SECOND FORM's CARD OF 'laws.FnDmarcSpaces'. -/
def fnDmarcSpacesUptoCard : Claim7 := { stood := { row := fnDmarcSpacesUptoRow, standIns := [], harness := (true, "75a7940dd66626ebba83bc0b5c7a9317750c697d5f4c70bf46738e35701c06bb"), looks := true }, kinds := [], alts := [], laidByText := true, laidKinds := [.data, .data, .data, .sentinel, .sentinel, .sentinel], laidTests := true, laidLooks := .later }
def FnDmarcSpacesUptoCardSaid : Prop := Claim7.holds Tryz.pinned (.plain (OpenSpec.upto fnDmarcSpacesSpec)) fnDmarcSpacesUptoCard

/-- THE SECOND FORM's CARD OF 'laws.FnDmarcUnknown'. -/
def fnDmarcUnknownUptoCard : Claim7 := { stood := { row := fnDmarcUnknownUptoRow, standIns := [], harness := (true, "75a7940dd66626ebba83bc0b5c7a9317750c697d5f4c70bf46738e35701c06bb"), looks := true }, kinds := [], alts := [], laidByText := true, laidKinds := [.data, .data, .data, .sentinel, .sentinel, .sentinel], laidTests := true, laidLooks := .later }
def FnDmarcUnknownUptoCardSaid : Prop := Claim7.holds Tryz.pinned (.plain (OpenSpec.upto fnDmarcUnknownSpec)) fnDmarcUnknownUptoCard

/-- THE SECOND FORM's CARD OF 'laws.FnDmarcValues'. -/
def fnDmarcValuesUptoCard : Claim7 := { stood := { row := fnDmarcValuesUptoRow, standIns := [], harness := (true, "75a7940dd66626ebba83bc0b5c7a9317750c697d5f4c70bf46738e35701c06bb"), looks := true }, kinds := [], alts := [], laidByText := true, laidKinds := [.data, .data, .data, .sentinel, .sentinel, .sentinel], laidTests := true, laidLooks := .later }
def FnDmarcValuesUptoCardSaid : Prop := Claim7.holds Tryz.pinned (.plain (OpenSpec.upto fnDmarcValuesSpec)) fnDmarcValuesUptoCard

/-- THE SECOND FORM's CARD OF 'laws.FnDmarcWanting'. -/
def fnDmarcWantingUptoCard : Claim7 := { stood := { row := fnDmarcWantingUptoRow, standIns := [], harness := (true, "75a7940dd66626ebba83bc0b5c7a9317750c697d5f4c70bf46738e35701c06bb"), looks := true }, kinds := [], alts := [], laidByText := true, laidKinds := [.data, .data, .data, .sentinel, .sentinel, .sentinel], laidTests := true, laidLooks := .later }
def FnDmarcWantingUptoCardSaid : Prop := Claim7.holds Tryz.pinned (.plain (OpenSpec.upto fnDmarcWantingSpec)) fnDmarcWantingUptoCard

/-- THE SECOND FORM's CARD OF 'laws.FnDmarcAmong'. -/
def fnDmarcAmongUptoCard : Claim7 := { stood := { row := fnDmarcAmongUptoRow, standIns := [], harness := (true, "75a7940dd66626ebba83bc0b5c7a9317750c697d5f4c70bf46738e35701c06bb"), looks := true }, kinds := [], alts := [], laidByText := true, laidKinds := [.data, .data, .data, .sentinel, .sentinel, .sentinel, .sentinel], laidTests := true, laidLooks := .later }
def FnDmarcAmongUptoCardSaid : Prop := Claim7.holds Tryz.pinned (.plain (OpenSpec.upto fnDmarcAmongSpec)) fnDmarcAmongUptoCard

/-- THE SECOND FORM's CARD OF 'laws.FnDmarcLookup'. -/
def fnDmarcLookupUptoCard : Claim7 := { stood := { row := fnDmarcLookupUptoRow, standIns := [], harness := (true, "75a7940dd66626ebba83bc0b5c7a9317750c697d5f4c70bf46738e35701c06bb"), looks := true }, kinds := [], alts := [], laidByText := true, laidKinds := [.data, .data, .data, .sentinel, .sentinel, .sentinel, .sentinel], laidTests := true, laidLooks := .later }
def FnDmarcLookupUptoCardSaid : Prop := Claim7.holds Tryz.pinned (.plain (OpenSpec.upto fnDmarcLookupSpec)) fnDmarcLookupUptoCard
end Rows
end Go.Proofs.YthiehlcbjcejcaaGreatDoor
