/-
  DERIVED. GIVEN WITH THE SEED: THE CARDS: each row of YbulkdkciDoorRows.lean that lists a variable, with what it lists TIED to the program's text (the seventh form; the later family's looks); each row that meets fmt, with fmt's text TOLD by the authors' own Lean function (tested against real Go, not proved from fmt's source: count such statements apart). THE CARD IS WHAT COUNTS. Prove the row's statement (the work); the ties are given (YbulkdkciDoorTie.lean); close each card by the builder's one call (the guide's Derived/Test/ToyasCard.lean, 'card_holds'). Laid BY PROGRAM, IN A SANDBOX (cutbox-door.mjs). By AI agents, Wed Nov 11 2026. No macro, syntax, notation, axiom, sorry.
-/
import Derived.Test.YbulkdkciDoorRows
import GoSem.ClaimSeven
namespace Go.Proofs.YbulkdkciDoor
namespace Rows

/-- THE TIED CARD OF 'sctp.LawS5559AWhole'. -/
def lawS5559AWholeCard : Claim7 := { stood := { row := lawS5559AWholeRow, standIns := [], harness := (true, "e24297492f17fcca6f83eb07dc7f51d631e061bcdf626a2c1f217eb240c8d734"), looks := true }, kinds := [], alts := [], laidByText := true, laidKinds := [.sentinel], laidTests := true, laidLooks := .later }
def LawS5559AWholeCardSaid : Prop := Claim7.holds Ybad.pinned (.plain (OpenSpec.ofChange lawS5559AWholeSpec)) lawS5559AWholeCard
end Rows
end Go.Proofs.YbulkdkciDoor
