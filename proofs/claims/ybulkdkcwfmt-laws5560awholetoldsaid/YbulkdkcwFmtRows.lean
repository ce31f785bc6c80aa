/-
  NARROWER THAN 'FOR EVERY INPUT', by the rows' own cells (each row's printed sentence says how): LawS5560AWhole: ifaces, laid.
  DERIVED. THE GIVEN ROWS OF THIS SEAT. 1 by the template 'for every input the law returns true; each argument reads behind the call as it read before'; 0 by the template 'total and deterministic' (their statements: YbulkdkcwFmtTotals.lean).
  GIVEN WITH THE SEED: the statements are not yours to turn. If you find one false, say at which input.
  Laid BY PROGRAM, IN A SANDBOX (cutbox-rows.mjs): the forced cells as the released guide's own fill.sh prints them over the translation 19cc0cddd159e953… (all of the seat's roots in one cut). By AI agents, Wed Nov 11 2026. No macro, syntax, notation, axiom, sorry.
-/
import Derived.Test.YbulkdkcwFmtChecked
import GoSem.Claim
import GoSem.ClaimJoined
import GoSem.ClaimMapViews
import Derived.JoinedTies
import Derived.KernelRfl
namespace Go.Proofs.YbulkdkcwFmt
/- THE CELL 'sum', in the pinned program and in every row, IS THE sha256 OF THE DUMP (.gsa) THAT YbulkdkcwFmtProg.lean LOADS. Nothing in Lean hashes anything: it is a label: what it is worth is what the hold of that sum in a sandbox is worth. -/
noncomputable def Ybaf.pinned : Pinned := { name := "ybulkdkcwfmt", sum := "19cc0cddd159e953d153ad2fba9d590e17bec2b041464ec0aeb77d89c5ed1dfe", checked := Ybaf.checked }
namespace Rows
def none {H : Type} : Left H := { results := [], args := [] }

/- WHAT THE LISTED PACKAGE-LEVEL VARIABLES READ AS WHEN THE CALL BEGINS. Each datum BY PROGRAM (the guide's laid-datum.mjs) off the statement by which the dump's own 'gosem.cut.vars' lays the variable. In a bare row this is a premise. The card (YbulkdkcwFmtCards.lean) ties it to the program's text. -/
def laid_io_ErrShortBuffer {H : Type} : DataW H := .iface "*errors.errorString" (.ptr (.agg [.lit (.string [115, 104, 111, 114, 116, 32, 98, 117, 102, 102, 101, 114])]))
def laid_io_EOF {H : Type} : DataW H := .iface "*errors.errorString" (.ptr (.agg [.lit (.string [69, 79, 70])]))
def laid_io_ErrUnexpectedEOF {H : Type} : DataW H := .iface "*errors.errorString" (.ptr (.agg [.lit (.string [117, 110, 101, 120, 112, 101, 99, 116, 101, 100, 32, 69, 79, 70])]))
def laid_example_com_tenured_threads_tenured_threads_protocol_ErrTooLarge {H : Type} : DataW H := .iface "*errors.errorString" (.ptr (.agg [.lit (.string [112, 114, 111, 116, 111, 99, 111, 108, 58, 32, 102, 114, 97, 109, 101, 32, 112, 97, 121, 108, 111, 97, 100, 32, 116, 111, 111, 32, 108, 97, 114, 103, 101])]))

/-- 'protocol.LawS5560AWhole': WHATEVER THE INPUT: true; the input reads as it did. -/
def lawS5560AWholeSpec : ChangeSpec := { name := "lawS5560AWhole", vars := ["example.com/tenured-threads/tenured-threads/protocol.ErrTooLarge"], fn := fun _ => fun
  | [d1, d2, d3, d4, d5, d6, d7, g1] => { results := [.lit (.bool true)], args := [d1, d2, d3, d4, d5, d6, d7], vars := [g1] }
  | _ => none }
def lawS5560AWholeRow : OpenClaim := { program := "ybulkdkcwfmt", sum := "19cc0cddd159e953d153ad2fba9d590e17bec2b041464ec0aeb77d89c5ed1dfe", func := "example.com/tenured-threads/tenured-threads/protocol.LawS5560AWhole", spec := "lawS5560AWhole", stops := ["fmt.errorf, its operands' methods called", "fmt.Sprintf"], inPlace := ["fmt.errorf", "internal/reflectlite.TypeOf"], unfollowed := true, recurses := true, named := ["example.com/tenured-threads/tenured-threads/protocol.ErrTooLarge", "io.EOF", "io.ErrUnexpectedEOF", "encoding/binary.BigEndian", "io.ErrShortBuffer"], ifaces := true, apart := false, laid := [("io.ErrShortBuffer", laid_io_ErrShortBuffer), ("io.EOF", laid_io_EOF), ("io.ErrUnexpectedEOF", laid_io_ErrUnexpectedEOF), ("example.com/tenured-threads/tenured-threads/protocol.ErrTooLarge", laid_example_com_tenured_threads_tenured_threads_protocol_ErrTooLarge)] }
/-- NO THEOREM (fmt's text is open here; it may be false): for the released tool's asking of the row's closed facts alone. THE STATEMENT IS 'LawS5560AWholeToldSaid' (YbulkdkcwFmtCards.lean). -/
def LawS5560AWholeFormAsk : Prop := lawS5560AWholeRow.holds Ybaf.pinned (OpenSpec.ofChange lawS5560AWholeSpec)

/-- ITS FALSE NEIGHBOUR: 'it returns false'. Refute it at one input. -/
def lawS5560AWholeWrong : ChangeSpec := { name := "lawS5560AWhole", vars := ["example.com/tenured-threads/tenured-threads/protocol.ErrTooLarge"], fn := fun _ => fun
  | [d1, d2, d3, d4, d5, d6, d7, g1] => { results := [.lit (.bool false)], args := [d1, d2, d3, d4, d5, d6, d7], vars := [g1] }
  | _ => none }
def LawS5560AWholeWrongFormAsk : Prop := lawS5560AWholeRow.holds Ybaf.pinned (OpenSpec.ofChange lawS5560AWholeWrong)

end Rows
end Go.Proofs.YbulkdkcwFmt
