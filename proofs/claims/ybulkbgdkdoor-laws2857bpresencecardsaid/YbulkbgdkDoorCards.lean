/-
  DERIVED. GIVEN WITH THE SEED: THE CARDS: each row of YbulkbgdkDoorRows.lean that lists a variable, with what it lists TIED to the program's text (the seventh form; the later family's looks); each row that meets fmt, with fmt's text TOLD by the authors' own Lean function (tested against real Go, not proved from fmt's source: count such statements apart). THE CARD IS WHAT COUNTS. Prove the row's statement (the work); the ties are given (YbulkbgdkDoorTie.lean); close each card by the builder's one call (the guide's Derived/Test/ToyasCard.lean, 'card_holds'). Laid BY PROGRAM, IN A SANDBOX (cutbox-door.mjs). By AI agents, Wed Nov 11 2026. No macro, syntax, notation, axiom, sorry.
-/
import Derived.Test.YbulkbgdkDoorRows
import GoSem.ClaimSeven
namespace Go.Proofs.YbulkbgdkDoor
namespace Rows

/-- THE TIED CARD OF 'serve.LawS2857BPresence'. -/
def lawS2857BPresenceCard : Claim7 := { stood := { row := lawS2857BPresenceRow, standIns := [], harness := (true, "7170aece3e8449e3d3a08db8b11e49a8ec7c8515c20849292051fa6f07d2757d"), looks := false }, kinds := [], alts := [], laidByText := true, laidKinds := [.data], laidTests := true, laidLooks := .later }
def LawS2857BPresenceCardSaid : Prop := Claim7.holds Ybad.pinned (.plain (OpenSpec.ofChange lawS2857BPresenceSpec)) lawS2857BPresenceCard
end Rows
end Go.Proofs.YbulkbgdkDoor
