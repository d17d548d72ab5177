/-
  DERIVED. GIVEN WITH THE SEED: THE CARDS: each row of YtflhiclingkonaaDoorRows.lean that lists a variable, with what it lists TIED to the program's text (the seventh form; the later family's looks); each row that meets fmt, with fmt's text TOLD by the authors' own Lean function (tested against real Go, not proved from fmt's source: count such statements apart). THE CARD IS WHAT COUNTS. Prove the row's statement (the work); the ties are given (YtflhiclingkonaaDoorTie.lean); close each card by the builder's one call (the guide's Derived/Test/ToyasCard.lean, 'card_holds'). Laid BY PROGRAM, IN A SANDBOX (cutbox-door.mjs). By AI agents, Wed Nov 11 2026. No macro, syntax, notation, axiom, sorry.
-/
import Derived.Test.YtflhiclingkonaaDoorRows
import GoSem.ClaimSeven
namespace Go.Proofs.YtflhiclingkonaaDoor
namespace Rows

/-- THE TIED CARD OF 'laws.FnDRecords'. -/
def fnDRecordsCard : Claim7 := { stood := { row := fnDRecordsRow, standIns := [], harness := (true, "0054e68f97449440aca4dce60f23ce5200f10fffa608669e864e60c0172028ce"), looks := true }, kinds := [], alts := [], laidByText := true, laidKinds := [.data, .data, .data], laidTests := true, laidLooks := .later }
def FnDRecordsCardSaid : Prop := Claim7.holds Tryd.pinned (.plain (OpenSpec.ofChange fnDRecordsSpec)) fnDRecordsCard

/-- THE TIED CARD OF 'laws.FnDFieldTexts'. -/
def fnDFieldTextsCard : Claim7 := { stood := { row := fnDFieldTextsRow, standIns := [], harness := (true, "0054e68f97449440aca4dce60f23ce5200f10fffa608669e864e60c0172028ce"), looks := true }, kinds := [], alts := [], laidByText := true, laidKinds := [.sentinel], laidTests := true, laidLooks := .later }
def FnDFieldTextsCardSaid : Prop := Claim7.holds Tryd.pinned (.plain (OpenSpec.ofChange fnDFieldTextsSpec)) fnDFieldTextsCard

/-- THE TIED CARD OF 'laws.FnDFieldWidth'. -/
def fnDFieldWidthCard : Claim7 := { stood := { row := fnDFieldWidthRow, standIns := [], harness := (true, "0054e68f97449440aca4dce60f23ce5200f10fffa608669e864e60c0172028ce"), looks := true }, kinds := [], alts := [], laidByText := true, laidKinds := [.sentinel], laidTests := true, laidLooks := .later }
def FnDFieldWidthCardSaid : Prop := Claim7.holds Tryd.pinned (.plain (OpenSpec.ofChange fnDFieldWidthSpec)) fnDFieldWidthCard

/-- THE TIED CARD OF 'laws.FnDRecordBack'. -/
def fnDRecordBackCard : Claim7 := { stood := { row := fnDRecordBackRow, standIns := [], harness := (true, "0054e68f97449440aca4dce60f23ce5200f10fffa608669e864e60c0172028ce"), looks := true }, kinds := [], alts := [], laidByText := true, laidKinds := [.data, .data, .data], laidTests := true, laidLooks := .later }
def FnDRecordBackCardSaid : Prop := Claim7.holds Tryd.pinned (.plain (OpenSpec.ofChange fnDRecordBackSpec)) fnDRecordBackCard

/-- THE TIED CARD OF 'laws.FnDWords'. -/
def fnDWordsCard : Claim7 := { stood := { row := fnDWordsRow, standIns := [], harness := (true, "0054e68f97449440aca4dce60f23ce5200f10fffa608669e864e60c0172028ce"), looks := true }, kinds := [], alts := [], laidByText := true, laidKinds := [.data, .data, .data, .sentinel, .sentinel], laidTests := true, laidLooks := .later }
def FnDWordsCardSaid : Prop := Claim7.holds Tryd.pinned (.plain (OpenSpec.ofChange fnDWordsSpec)) fnDWordsCard

/-- THE TIED CARD OF 'laws.FnDFieldBack'. -/
def fnDFieldBackCard : Claim7 := { stood := { row := fnDFieldBackRow, standIns := [], harness := (true, "0054e68f97449440aca4dce60f23ce5200f10fffa608669e864e60c0172028ce"), looks := true }, kinds := [], alts := [], laidByText := true, laidKinds := [.sentinel], laidTests := true, laidLooks := .later }
def FnDFieldBackCardSaid : Prop := Claim7.holds Tryd.pinned (.plain (OpenSpec.ofChange fnDFieldBackSpec)) fnDFieldBackCard

/-- THE SECOND FORM's CARD OF 'laws.FnDRecords'. -/
def fnDRecordsUptoCard : Claim7 := { stood := { row := fnDRecordsUptoRow, standIns := [], harness := (true, "0054e68f97449440aca4dce60f23ce5200f10fffa608669e864e60c0172028ce"), looks := true }, kinds := [], alts := [], laidByText := true, laidKinds := [.data, .data, .data], laidTests := true, laidLooks := .later }
def FnDRecordsUptoCardSaid : Prop := Claim7.holds Tryd.pinned (.plain (OpenSpec.upto fnDRecordsSpec)) fnDRecordsUptoCard

/-- THE SECOND FORM's CARD OF 'laws.FnDFieldTexts'. -/
def fnDFieldTextsUptoCard : Claim7 := { stood := { row := fnDFieldTextsUptoRow, standIns := [], harness := (true, "0054e68f97449440aca4dce60f23ce5200f10fffa608669e864e60c0172028ce"), looks := true }, kinds := [], alts := [], laidByText := true, laidKinds := [.sentinel], laidTests := true, laidLooks := .later }
def FnDFieldTextsUptoCardSaid : Prop := Claim7.holds Tryd.pinned (.plain (OpenSpec.upto fnDFieldTextsSpec)) fnDFieldTextsUptoCard

/-- THE SECOND FORM's CARD OF 'laws.FnDFieldWidth'. -/
def fnDFieldWidthUptoCard : Claim7 := { stood := { row := fnDFieldWidthUptoRow, standIns := [], harness := (true, "0054e68f97449440aca4dce60f23ce5200f10fffa608669e864e60c0172028ce"), looks := true }, kinds := [], alts := [], laidByText := true, laidKinds := [.sentinel], laidTests := true, laidLooks := .later }
def FnDFieldWidthUptoCardSaid : Prop := Claim7.holds Tryd.pinned (.plain (OpenSpec.upto fnDFieldWidthSpec)) fnDFieldWidthUptoCard

/-- THE SECOND FORM's CARD OF 'laws.FnDRecordBack'. -/
def fnDRecordBackUptoCard : Claim7 := { stood := { row := fnDRecordBackUptoRow, standIns := [], harness := (true, "0054e68f97449440aca4dce60f23ce5200f10fffa608669e864e60c0172028ce"), looks := true }, kinds := [], alts := [], laidByText := true, laidKinds := [.data, .data, .data], laidTests := true, laidLooks := .later }
def FnDRecordBackUptoCardSaid : Prop := Claim7.holds Tryd.pinned (.plain (OpenSpec.upto fnDRecordBackSpec)) fnDRecordBackUptoCard

/-- THE SECOND FORM's CARD OF 'laws.FnDWords'. -/
def fnDWordsUptoCard : Claim7 := { stood := { row := fnDWordsUptoRow, standIns := [], harness := (true, "0054e68f97449440aca4dce60f23ce5200f10fffa608669e864e60c0172028ce"), looks := true }, kinds := [], alts := [], laidByText := true, laidKinds := [.data, .data, .data, .sentinel, .sentinel], laidTests := true, laidLooks := .later }
def FnDWordsUptoCardSaid : Prop := Claim7.holds Tryd.pinned (.plain (OpenSpec.upto fnDWordsSpec)) fnDWordsUptoCard

/-- THE SECOND FORM's CARD OF 'laws.FnDFieldBack'. -/
def fnDFieldBackUptoCard : Claim7 := { stood := { row := fnDFieldBackUptoRow, standIns := [], harness := (true, "0054e68f97449440aca4dce60f23ce5200f10fffa608669e864e60c0172028ce"), looks := true }, kinds := [], alts := [], laidByText := true, laidKinds := [.sentinel], laidTests := true, laidLooks := .later }
def FnDFieldBackUptoCardSaid : Prop := Claim7.holds Tryd.pinned (.plain (OpenSpec.upto fnDFieldBackSpec)) fnDFieldBackUptoCard
end Rows
end Go.Proofs.YtflhiclingkonaaDoor
