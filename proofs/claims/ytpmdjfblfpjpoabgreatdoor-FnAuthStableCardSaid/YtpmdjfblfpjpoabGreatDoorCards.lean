/-
  DERIVED. GIVEN WITH THE SEED: THE CARDS: each row of YtpmdjfblfpjpoabGreatDoorRows.lean that lists a variable, with what it lists TIED to the program's text (the seventh form; the later family's looks); each row that meets fmt, with fmt's text TOLD by the authors' own Lean function (tested against real Go, not proved from fmt's source: count such statements apart). THE CARD IS WHAT COUNTS. Prove the row's statement (the work); the ties are given (YtpmdjfblfpjpoabGreatDoorTie.lean); close each card by the builder's one call (the guide's Derived/Test/ToyasCard.lean, 'card_holds'). Laid BY PROGRAM, IN A SANDBOX (cutbox-door.mjs). By AI agents, Wed Nov 11 2026. No macro, syntax, notation, axiom, sorry.
-/
import Derived.Test.YtpmdjfblfpjpoabGreatDoorRows
import GoSem.ClaimSeven
namespace Go.Proofs.YtpmdjfblfpjpoabGreatDoor
namespace Rows

/-- THE TIED CARD OF 'laws.FnAuthStable'. -/
def fnAuthStableCard : Claim7 := { stood := { row := fnAuthStableRow, standIns := [], harness := (true, "27a2e58a4554abea739a3afe1450df66b53caee0e9d167f59b6fa758e52f132e"), looks := true }, kinds := [], alts := [], laidByText := true, laidKinds := [.data, .data, .data, .sentinel, .sentinel, .sentinel], laidTests := true, laidLooks := .later }
def FnAuthStableCardSaid : Prop := Claim7.holds Tryz.pinned (.plain (OpenSpec.ofChange fnAuthStableSpec)) fnAuthStableCard

/-- THE SECOND FORM's CARD OF 'laws.FnAuthStable'. -/
def fnAuthStableUptoCard : Claim7 := { stood := { row := fnAuthStableUptoRow, standIns := [], harness := (true, "27a2e58a4554abea739a3afe1450df66b53caee0e9d167f59b6fa758e52f132e"), looks := true }, kinds := [], alts := [], laidByText := true, laidKinds := [.data, .data, .data, .sentinel, .sentinel, .sentinel], laidTests := true, laidLooks := .later }
def FnAuthStableUptoCardSaid : Prop := Claim7.holds Tryz.pinned (.plain (OpenSpec.upto fnAuthStableSpec)) fnAuthStableUptoCard
end Rows
end Go.Proofs.YtpmdjfblfpjpoabGreatDoor
