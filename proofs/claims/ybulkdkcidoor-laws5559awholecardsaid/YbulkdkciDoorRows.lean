/-
  NARROWER THAN 'FOR EVERY INPUT', by the rows' own cells (each row's printed sentence says how): LawS5559AWhole: ifaces, laid.
  DERIVED. THE GIVEN ROWS OF THIS SEAT. 1 by the template 'for every input the law returns true; each argument reads behind the call as it read before'; 0 by the template 'total and deterministic' (their statements: YbulkdkciDoorTotals.lean).
  GIVEN WITH THE SEED: the statements are not yours to turn. If you find one false, say at which input.
  Laid BY PROGRAM, IN A SANDBOX (cutbox-rows.mjs): the forced cells as the released guide's own fill.sh prints them over the translation 07d88b66b85ad2f8… (all of the seat's roots in one cut). By AI agents, Wed Nov 11 2026. No macro, syntax, notation, axiom, sorry.
-/
import Derived.Test.YbulkdkciDoorChecked
import GoSem.Claim
import GoSem.ClaimJoined
import GoSem.ClaimMapViews
import Derived.JoinedTies
import Derived.KernelRfl
namespace Go.Proofs.YbulkdkciDoor
/- THE CELL 'sum', in the pinned program and in every row, IS THE sha256 OF THE DUMP (.gsa) THAT YbulkdkciDoorProg.lean LOADS. Nothing in Lean hashes anything: it is a label: what it is worth is what the hold of that sum in a sandbox is worth. -/
noncomputable def Ybad.pinned : Pinned := { name := "ybulkdkcidoor", sum := "07d88b66b85ad2f8c17909631d0f4a43f7221770d3684c8313d3425d8086820d", checked := Ybad.checked }
namespace Rows
def none {H : Type} : Left H := { results := [], args := [] }

/- WHAT THE LISTED PACKAGE-LEVEL VARIABLES READ AS WHEN THE CALL BEGINS. Each datum BY PROGRAM (the guide's laid-datum.mjs) off the statement by which the dump's own 'gosem.cut.vars' lays the variable. In a bare row this is a premise. The card (YbulkdkciDoorCards.lean) ties it to the program's text. -/
def laid_example_com_semaprobe_semaprobe_internal_sctp_errMalformed {H : Type} : DataW H := .iface "*errors.errorString" (.ptr (.agg [.lit (.string [115, 99, 116, 112, 58, 32, 109, 97, 108, 102, 111, 114, 109, 101, 100, 32, 112, 97, 99, 107, 101, 116])]))

/-- 'sctp.LawS5559AWhole': WHATEVER THE INPUT: true; the input reads as it did. -/
def lawS5559AWholeSpec : ChangeSpec := { name := "lawS5559AWhole", vars := ["example.com/semaprobe/semaprobe/internal/sctp.errMalformed"], fn := fun _ => fun
  | [d1, d2, d3, d4, d5, d6, g1] => { results := [.lit (.bool true)], args := [d1, d2, d3, d4, d5, d6], vars := [g1] }
  | _ => none }
def lawS5559AWholeRow : OpenClaim := { program := "ybulkdkcidoor", sum := "07d88b66b85ad2f8c17909631d0f4a43f7221770d3684c8313d3425d8086820d", func := "example.com/semaprobe/semaprobe/internal/sctp.LawS5559AWhole", spec := "lawS5559AWhole", named := ["example.com/semaprobe/semaprobe/internal/sctp.errMalformed", "encoding/binary.BigEndian"], ifaces := true, apart := false, laid := [("example.com/semaprobe/semaprobe/internal/sctp.errMalformed", laid_example_com_semaprobe_semaprobe_internal_sctp_errMalformed)] }
def LawS5559AWholeSaid : Prop := lawS5559AWholeRow.holds Ybad.pinned (OpenSpec.ofChange lawS5559AWholeSpec)

/-- ITS FALSE NEIGHBOUR: 'it returns false'. Refute it at one input. -/
def lawS5559AWholeWrong : ChangeSpec := { name := "lawS5559AWhole", vars := ["example.com/semaprobe/semaprobe/internal/sctp.errMalformed"], fn := fun _ => fun
  | [d1, d2, d3, d4, d5, d6, g1] => { results := [.lit (.bool false)], args := [d1, d2, d3, d4, d5, d6], vars := [g1] }
  | _ => none }
def LawS5559AWholeWrongFalsely : Prop := lawS5559AWholeRow.holds Ybad.pinned (OpenSpec.ofChange lawS5559AWholeWrong)

end Rows
end Go.Proofs.YbulkdkciDoor
