/-
  DERIVED. GIVEN WITH THE SEED: THE CARDS: each row of YtbalogmjickeaaaGreatDoorRows.lean that lists a variable, with what it lists TIED to the program's text (the seventh form; the later family's looks); each row that meets fmt, with fmt's text TOLD by the authors' own Lean function (tested against real Go, not proved from fmt's source: count such statements apart). THE CARD IS WHAT COUNTS. Prove the row's statement (the work); the ties are given (YtbalogmjickeaaaGreatDoorTie.lean); close each card by the builder's one call (the guide's Derived/Test/ToyasCard.lean, 'card_holds'). Laid BY PROGRAM, IN A SANDBOX (cutbox-door.mjs). By AI agents, Wed Nov 11 2026. No macro, syntax, notation, axiom, sorry.
-/
import Derived.Test.YtbalogmjickeaaaGreatDoorRows
import GoSem.ClaimSeven
namespace Go.Proofs.YtbalogmjickeaaaGreatDoor
namespace Rows

/-- THE TIED CARD OF 'laws.FnAuthArc'. -/
def fnAuthArcCard : Claim7 := { stood := { row := fnAuthArcRow, standIns := [], harness := (true, "9c4772bd0cbee228419c5c27b8d325ce31623c8a72589c1b4a8153528f8e8744"), looks := true }, kinds := [], alts := [], laidByText := true, laidKinds := [.data, .data, .data, .sentinel, .sentinel, .sentinel], laidTests := true, laidLooks := .later }
def FnAuthArcCardSaid : Prop := Claim7.holds Tryz.pinned (.plain (OpenSpec.ofChange fnAuthArcSpec)) fnAuthArcCard

/-- THE TIED CARD OF 'laws.FnAuthJoins'. -/
def fnAuthJoinsCard : Claim7 := { stood := { row := fnAuthJoinsRow, standIns := [], harness := (true, "9c4772bd0cbee228419c5c27b8d325ce31623c8a72589c1b4a8153528f8e8744"), looks := true }, kinds := [], alts := [], laidByText := true, laidKinds := [.data, .data, .data, .sentinel, .sentinel, .sentinel], laidTests := true, laidLooks := .later }
def FnAuthJoinsCardSaid : Prop := Claim7.holds Tryz.pinned (.plain (OpenSpec.ofChange fnAuthJoinsSpec)) fnAuthJoinsCard

/-- THE TIED CARD OF 'laws.FnAuthLetters'. -/
def fnAuthLettersCard : Claim7 := { stood := { row := fnAuthLettersRow, standIns := [], harness := (true, "9c4772bd0cbee228419c5c27b8d325ce31623c8a72589c1b4a8153528f8e8744"), looks := true }, kinds := [], alts := [], laidByText := true, laidKinds := [.data, .data, .data, .sentinel, .sentinel, .sentinel], laidTests := true, laidLooks := .later }
def FnAuthLettersCardSaid : Prop := Claim7.holds Tryz.pinned (.plain (OpenSpec.ofChange fnAuthLettersSpec)) fnAuthLettersCard

/-- THE TIED CARD OF 'laws.FnAuthMore'. -/
def fnAuthMoreCard : Claim7 := { stood := { row := fnAuthMoreRow, standIns := [], harness := (true, "9c4772bd0cbee228419c5c27b8d325ce31623c8a72589c1b4a8153528f8e8744"), looks := true }, kinds := [], alts := [], laidByText := true, laidKinds := [.data, .data, .data, .sentinel, .sentinel, .sentinel], laidTests := true, laidLooks := .later }
def FnAuthMoreCardSaid : Prop := Claim7.holds Tryz.pinned (.plain (OpenSpec.ofChange fnAuthMoreSpec)) fnAuthMoreCard

/-- THE TIED CARD OF 'laws.FnAuthParses'. -/
def fnAuthParsesCard : Claim7 := { stood := { row := fnAuthParsesRow, standIns := [], harness := (true, "9c4772bd0cbee228419c5c27b8d325ce31623c8a72589c1b4a8153528f8e8744"), looks := true }, kinds := [], alts := [], laidByText := true, laidKinds := [.data, .data, .data, .sentinel, .sentinel, .sentinel], laidTests := true, laidLooks := .later }
def FnAuthParsesCardSaid : Prop := Claim7.holds Tryz.pinned (.plain (OpenSpec.ofChange fnAuthParsesSpec)) fnAuthParsesCard

/-- THE TIED CARD OF 'laws.FnAuthReads'. -/
def fnAuthReadsCard : Claim7 := { stood := { row := fnAuthReadsRow, standIns := [], harness := (true, "9c4772bd0cbee228419c5c27b8d325ce31623c8a72589c1b4a8153528f8e8744"), looks := true }, kinds := [], alts := [], laidByText := true, laidKinds := [.data, .data, .data, .sentinel, .sentinel, .sentinel], laidTests := true, laidLooks := .later }
def FnAuthReadsCardSaid : Prop := Claim7.holds Tryz.pinned (.plain (OpenSpec.ofChange fnAuthReadsSpec)) fnAuthReadsCard

/-- THE TIED CARD OF 'laws.FnAuthSpaces'. -/
def fnAuthSpacesCard : Claim7 := { stood := { row := fnAuthSpacesRow, standIns := [], harness := (true, "9c4772bd0cbee228419c5c27b8d325ce31623c8a72589c1b4a8153528f8e8744"), looks := true }, kinds := [], alts := [], laidByText := true, laidKinds := [.data, .data, .data, .sentinel, .sentinel, .sentinel], laidTests := true, laidLooks := .later }
def FnAuthSpacesCardSaid : Prop := Claim7.holds Tryz.pinned (.plain (OpenSpec.ofChange fnAuthSpacesSpec)) fnAuthSpacesCard

/-- THE SECOND FORM's CARD OF 'laws.FnAuthArc'. -/
def fnAuthArcUptoCard : Claim7 := { stood := { row := fnAuthArcUptoRow, standIns := [], harness := (true, "9c4772bd0cbee228419c5c27b8d325ce31623c8a72589c1b4a8153528f8e8744"), looks := true }, kinds := [], alts := [], laidByText := true, laidKinds := [.data, .data, .data, .sentinel, .sentinel, .sentinel], laidTests := true, laidLooks := .later }
def FnAuthArcUptoCardSaid : Prop := Claim7.holds Tryz.pinned (.plain (OpenSpec.upto fnAuthArcSpec)) fnAuthArcUptoCard

/-- THE SECOND FORM's CARD OF 'laws.FnAuthJoins'. -/
def fnAuthJoinsUptoCard : Claim7 := { stood := { row := fnAuthJoinsUptoRow, standIns := [], harness := (true, "9c4772bd0cbee228419c5c27b8d325ce31623c8a72589c1b4a8153528f8e8744"), looks := true }, kinds := [], alts := [], laidByText := true, laidKinds := [.data, .data, .data, .sentinel, .sentinel, .sentinel], laidTests := true, laidLooks := .later }
def FnAuthJoinsUptoCardSaid : Prop := Claim7.holds Tryz.pinned (.plain (OpenSpec.upto fnAuthJoinsSpec)) fnAuthJoinsUptoCard

/-- THE SECOND FORM's CARD OF 'laws.FnAuthLetters'. -/
def fnAuthLettersUptoCard : Claim7 := { stood := { row := fnAuthLettersUptoRow, standIns := [], harness := (true, "9c4772bd0cbee228419c5c27b8d325ce31623c8a72589c1b4a8153528f8e8744"), looks := true }, kinds := [], alts := [], laidByText := true, laidKinds := [.data, .data, .data, .sentinel, .sentinel, .sentinel], laidTests := true, laidLooks := .later }
def FnAuthLettersUptoCardSaid : Prop := Claim7.holds Tryz.pinned (.plain (OpenSpec.upto fnAuthLettersSpec)) fnAuthLettersUptoCard

/-- THE SECOND FORM's CARD OF 'laws.FnAuthMore'. -/
def fnAuthMoreUptoCard : Claim7 := { stood := { row := fnAuthMoreUptoRow, standIns := [], harness := (true, "9c4772bd0cbee228419c5c27b8d325ce31623c8a72589c1b4a8153528f8e8744"), looks := true }, kinds := [], alts := [], laidByText := true, laidKinds := [.data, .data, .data, .sentinel, .sentinel, .sentinel], laidTests := true, laidLooks := .later }
def FnAuthMoreUptoCardSaid : Prop := Claim7.holds Tryz.pinned (.plain (OpenSpec.upto fnAuthMoreSpec)) fnAuthMoreUptoCard

/-- THE SECOND FORM's CARD OF 'laws.FnAuthParses'. -/
def fnAuthParsesUptoCard : Claim7 := { stood := { row := fnAuthParsesUptoRow, standIns := [], harness := (true, "9c4772bd0cbee228419c5c27b8d325ce31623c8a72589c1b4a8153528f8e8744"), looks := true }, kinds := [], alts := [], laidByText := true, laidKinds := [.data, .data, .data, .sentinel, .sentinel, .sentinel], laidTests := true, laidLooks := .later }
def FnAuthParsesUptoCardSaid : Prop := Claim7.holds Tryz.pinned (.plain (OpenSpec.upto fnAuthParsesSpec)) fnAuthParsesUptoCard

/-- THE SECOND FORM's CARD OF 'laws.FnAuthReads'. -/
def fnAuthReadsUptoCard : Claim7 := { stood := { row := fnAuthReadsUptoRow, standIns := [], harness := (true, "9c4772bd0cbee228419c5c27b8d325ce31623c8a72589c1b4a8153528f8e8744"), looks := true }, kinds := [], alts := [], laidByText := true, laidKinds := [.data, .data, .data, .sentinel, .sentinel, .sentinel], laidTests := true, laidLooks := .later }
def FnAuthReadsUptoCardSaid : Prop := Claim7.holds Tryz.pinned (.plain (OpenSpec.upto fnAuthReadsSpec)) fnAuthReadsUptoCard

/-- THE SECOND FORM's CARD OF 'laws.FnAuthSpaces'. -/
def fnAuthSpacesUptoCard : Claim7 := { stood := { row := fnAuthSpacesUptoRow, standIns := [], harness := (true, "9c4772bd0cbee228419c5c27b8d325ce31623c8a72589c1b4a8153528f8e8744"), looks := true }, kinds := [], alts := [], laidByText := true, laidKinds := [.data, .data, .data, .sentinel, .sentinel, .sentinel], laidTests := true, laidLooks := .later }
def FnAuthSpacesUptoCardSaid : Prop := Claim7.holds Tryz.pinned (.plain (OpenSpec.upto fnAuthSpacesSpec)) fnAuthSpacesUptoCard
end Rows
end Go.Proofs.YtbalogmjickeaaaGreatDoor
