/-
  No cell of these rows narrows 'for every input' (looked for: loops, veiled, ifaces, maps, wideKeys, modest, calm, conditions, laid).
  DERIVED. THE GIVEN ROWS OF THIS SEAT. 1 by the template 'for every input the law returns true; each argument reads behind the call as it read before'; 0 by the template 'total and deterministic' (their statements: YbulkdkdkTotals.lean).
  GIVEN WITH THE SEED: the statements are not yours to turn. If you find one false, say at which input.
  Laid BY PROGRAM, IN A SANDBOX (cutbox-rows.mjs): the forced cells as the released guide's own fill.sh prints them over the translation bf8fdbfed9902a95… (all of the seat's roots in one cut). By AI agents, Wed Nov 11 2026. No macro, syntax, notation, axiom, sorry.
-/
import Derived.Test.YbulkdkdkChecked
import GoSem.Claim
import GoSem.ClaimJoined
import GoSem.ClaimMapViews
import Derived.JoinedTies
import Derived.KernelRfl
namespace Go.Proofs.Ybulkdkdk
/- THE CELL 'sum', in the pinned program and in every row, IS THE sha256 OF THE DUMP (.gsa) THAT YbulkdkdkProg.lean LOADS. Nothing in Lean hashes anything: it is a label: what it is worth is what the hold of that sum in a sandbox is worth. -/
noncomputable def Yba.pinned : Pinned := { name := "ybulkdkdk", sum := "bf8fdbfed9902a95fdfc5935022b4b5d8342eee23645d96091849e8d6a50ed65", checked := Yba.checked }
namespace Rows
def none {H : Type} : Left H := { results := [], args := [] }

/-- 'sim.LawS5561CWhole': WHATEVER THE INPUT: true; the input reads as it did. -/
def lawS5561CWholeSpec : ChangeSpec := { name := "lawS5561CWhole", fn := fun _ => fun
  | [d1, d2] => { results := [.lit (.bool true)], args := [d1, d2] }
  | _ => none }
def lawS5561CWholeRow : OpenClaim := { program := "ybulkdkdk", sum := "bf8fdbfed9902a95fdfc5935022b4b5d8342eee23645d96091849e8d6a50ed65", func := "example.com/hearsay/hearsay/internal/sim.LawS5561CWhole", spec := "lawS5561CWhole", apart := false }
def LawS5561CWholeSaid : Prop := lawS5561CWholeRow.holds Yba.pinned (OpenSpec.ofChange lawS5561CWholeSpec)

/-- ITS FALSE NEIGHBOUR: 'it returns false'. Refute it at one input. -/
def lawS5561CWholeWrong : ChangeSpec := { name := "lawS5561CWhole", fn := fun _ => fun
  | [d1, d2] => { results := [.lit (.bool false)], args := [d1, d2] }
  | _ => none }
def LawS5561CWholeWrongFalsely : Prop := lawS5561CWholeRow.holds Yba.pinned (OpenSpec.ofChange lawS5561CWholeWrong)

end Rows
end Go.Proofs.Ybulkdkdk
