/-
  DERIVED. GIVEN WITH THE SEED: THE CARDS: each row of YbulkdkcwFmtRows.lean that lists a variable, with what it lists TIED to the program's text (the seventh form; the later family's looks); each row that meets fmt, with fmt's text TOLD by the authors' own Lean function (tested against real Go, not proved from fmt's source: count such statements apart). THE CARD IS WHAT COUNTS. Prove the row's statement (the work); the ties are given (YbulkdkcwFmtTie.lean); close each card by the builder's one call (the guide's Derived/Test/ToyasCard.lean, 'card_holds'). Laid BY PROGRAM, IN A SANDBOX (cutbox-door.mjs). By AI agents, Wed Nov 11 2026. No macro, syntax, notation, axiom, sorry.
-/
import Derived.Test.YbulkdkcwFmtRows
import GoSem.ClaimSeven
namespace Go.Proofs.YbulkdkcwFmt
namespace Rows

/-- THE TOLD AND TIED CARD OF 'protocol.LawS5560AWhole'. -/
def lawS5560AWholeCard : Claim7 := { stood := { row := lawS5560AWholeRow, standIns := [], harness := (true, "86b20668c4ec85d2f1101bce2894df5fcef78aac27b1bfcf32b85675d8340a9b"), looks := true }, told := true, laidByText := true, laidKinds := [.sentinel, .sentinel, .sentinel, .sentinel], laidTests := true, laidLooks := .later, goes := false }
def LawS5560AWholeToldSaid : Prop := Claim7.holds Ybaf.pinned (.plain (OpenSpec.ofChange lawS5560AWholeSpec)) lawS5560AWholeCard
/-- ITS FALSE NEIGHBOUR. Refute it at one input. -/
def LawS5560AWholeToldWrongFalsely : Prop := Claim7.holds Ybaf.pinned (.plain (OpenSpec.ofChange lawS5560AWholeWrong)) lawS5560AWholeCard
end Rows
end Go.Proofs.YbulkdkcwFmt
