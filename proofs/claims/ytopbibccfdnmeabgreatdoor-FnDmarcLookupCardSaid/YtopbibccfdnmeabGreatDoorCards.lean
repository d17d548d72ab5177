/-
  DERIVED. GIVEN WITH THE SEED: THE CARDS: each row of YtopbibccfdnmeabGreatDoorRows.lean that lists a variable, with what it lists TIED to the program's text (the seventh form; the later family's looks); each row that meets fmt, with fmt's text TOLD by the authors' own Lean function (tested against real Go, not proved from fmt's source: count such statements apart). THE CARD IS WHAT COUNTS. Prove the row's statement (the work); the ties are given (YtopbibccfdnmeabGreatDoorTie.lean); close each card by the builder's one call (the guide's Derived/Test/ToyasCard.lean, 'card_holds'). Laid BY PROGRAM, IN A SANDBOX (cutbox-door.mjs). By AI agents, Wed Nov 11 2026. No macro, syntax, notation, axiom, sorry.
-/
import Derived.Test.YtopbibccfdnmeabGreatDoorRows
import GoSem.ClaimSeven
namespace Go.Proofs.YtopbibccfdnmeabGreatDoor
namespace Rows

/-- THE TIED CARD OF 'laws.FnDmarcLookup'. -/
def fnDmarcLookupCard : Claim7 := { stood := { row := fnDmarcLookupRow, standIns := [], harness := (true, "a4b3ec24a9c0ea41b78c5fed13aef536bdb4829fcb6acd26f47b0ddc00f1d6f6"), looks := true }, kinds := [], alts := [], laidByText := true, laidKinds := [.data, .data, .data, .sentinel, .sentinel, .sentinel, .sentinel], laidTests := true, laidLooks := .later }
def FnDmarcLookupCardSaid : Prop := Claim7.holds Tryz.pinned (.plain (OpenSpec.ofChange fnDmarcLookupSpec)) fnDmarcLookupCard

/-- THE SECOND FORM's CARD OF 'laws.FnDmarcLookup'. -/
def fnDmarcLookupUptoCard : Claim7 := { stood := { row := fnDmarcLookupUptoRow, standIns := [], harness := (true, "a4b3ec24a9c0ea41b78c5fed13aef536bdb4829fcb6acd26f47b0ddc00f1d6f6"), looks := true }, kinds := [], alts := [], laidByText := true, laidKinds := [.data, .data, .data, .sentinel, .sentinel, .sentinel, .sentinel], laidTests := true, laidLooks := .later }
def FnDmarcLookupUptoCardSaid : Prop := Claim7.holds Tryz.pinned (.plain (OpenSpec.upto fnDmarcLookupSpec)) fnDmarcLookupUptoCard
end Rows
end Go.Proofs.YtopbibccfdnmeabGreatDoor
