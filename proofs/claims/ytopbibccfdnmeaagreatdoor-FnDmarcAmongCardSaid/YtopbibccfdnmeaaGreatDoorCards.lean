/-
  DERIVED. GIVEN WITH THE SEED: THE CARDS: each row of YtopbibccfdnmeaaGreatDoorRows.lean that lists a variable, with what it lists TIED to the program's text (the seventh form; the later family's looks); each row that meets fmt, with fmt's text TOLD by the authors' own Lean function (tested against real Go, not proved from fmt's source: count such statements apart). THE CARD IS WHAT COUNTS. Prove the row's statement (the work); the ties are given (YtopbibccfdnmeaaGreatDoorTie.lean); close each card by the builder's one call (the guide's Derived/Test/ToyasCard.lean, 'card_holds'). Laid BY PROGRAM, IN A SANDBOX (cutbox-door.mjs). By AI agents, Wed Nov 11 2026. No macro, syntax, notation, axiom, sorry.
-/
import Derived.Test.YtopbibccfdnmeaaGreatDoorRows
import GoSem.ClaimSeven
namespace Go.Proofs.YtopbibccfdnmeaaGreatDoor
namespace Rows

/-- THE TIED CARD OF 'laws.FnDmarcAmong'. -/
def fnDmarcAmongCard : Claim7 := { stood := { row := fnDmarcAmongRow, standIns := [], harness := (true, "2c5023351f4c5e012c256b79c5ff15e06102c1ec724c47406eceeeb585634669"), looks := true }, kinds := [], alts := [], laidByText := true, laidKinds := [.data, .data, .data, .sentinel, .sentinel, .sentinel, .sentinel], laidTests := true, laidLooks := .later }
def FnDmarcAmongCardSaid : Prop := Claim7.holds Tryz.pinned (.plain (OpenSpec.ofChange fnDmarcAmongSpec)) fnDmarcAmongCard

/-- THE SECOND FORM's CARD OF 'laws.FnDmarcAmong'. -/
def fnDmarcAmongUptoCard : Claim7 := { stood := { row := fnDmarcAmongUptoRow, standIns := [], harness := (true, "2c5023351f4c5e012c256b79c5ff15e06102c1ec724c47406eceeeb585634669"), looks := true }, kinds := [], alts := [], laidByText := true, laidKinds := [.data, .data, .data, .sentinel, .sentinel, .sentinel, .sentinel], laidTests := true, laidLooks := .later }
def FnDmarcAmongUptoCardSaid : Prop := Claim7.holds Tryz.pinned (.plain (OpenSpec.upto fnDmarcAmongSpec)) fnDmarcAmongUptoCard
end Rows
end Go.Proofs.YtopbibccfdnmeaaGreatDoor
