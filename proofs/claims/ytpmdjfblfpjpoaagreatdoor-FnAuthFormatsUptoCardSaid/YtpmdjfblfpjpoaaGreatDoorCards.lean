/-
  DERIVED. GIVEN WITH THE SEED: THE CARDS: each row of YtpmdjfblfpjpoaaGreatDoorRows.lean that lists a variable, with what it lists TIED to the program's text (the seventh form; the later family's looks); each row that meets fmt, with fmt's text TOLD by the authors' own Lean function (tested against real Go, not proved from fmt's source: count such statements apart). THE CARD IS WHAT COUNTS. Prove the row's statement (the work); the ties are given (YtpmdjfblfpjpoaaGreatDoorTie.lean); close each card by the builder's one call (the guide's Derived/Test/ToyasCard.lean, 'card_holds'). Laid BY PROGRAM, IN A SANDBOX (cutbox-door.mjs). By AI agents, Wed Nov 11 2026. No macro, syntax, notation, axiom, sorry.
-/
import Derived.Test.YtpmdjfblfpjpoaaGreatDoorRows
import GoSem.ClaimSeven
namespace Go.Proofs.YtpmdjfblfpjpoaaGreatDoor
namespace Rows

/-- THE TIED CARD OF 'laws.FnAuthFormats'. -/
def fnAuthFormatsCard : Claim7 := { stood := { row := fnAuthFormatsRow, standIns := [], harness := (true, "7655229469640a81dafa7e5ca27201172df8b646a35dcd43c9c767b85b2aa813"), looks := true }, kinds := [], alts := [], laidByText := true, laidKinds := [.data, .data, .data, .sentinel, .sentinel, .sentinel], laidTests := true, laidLooks := .later }
def FnAuthFormatsCardSaid : Prop := Claim7.holds Tryz.pinned (.plain (OpenSpec.ofChange fnAuthFormatsSpec)) fnAuthFormatsCard

/-- THE SECOND FORM's CARD OF 'laws.FnAuthFormats'. -/
def fnAuthFormatsUptoCard : Claim7 := { stood := { row := fnAuthFormatsUptoRow, standIns := [], harness := (true, "7655229469640a81dafa7e5ca27201172df8b646a35dcd43c9c767b85b2aa813"), looks := true }, kinds := [], alts := [], laidByText := true, laidKinds := [.data, .data, .data, .sentinel, .sentinel, .sentinel], laidTests := true, laidLooks := .later }
def FnAuthFormatsUptoCardSaid : Prop := Claim7.holds Tryz.pinned (.plain (OpenSpec.upto fnAuthFormatsSpec)) fnAuthFormatsUptoCard
end Rows
end Go.Proofs.YtpmdjfblfpjpoaaGreatDoor
