/-
  NARROWER THAN 'FOR EVERY INPUT', by the rows' own cells (each row's printed sentence says how): LawS6619BWhole: ifaces, laid.
  DERIVED. THE GIVEN ROWS OF THIS SEAT. 1 by the template 'for every input the law returns true; each argument reads behind the call as it read before'; 0 by the template 'total and deterministic' (their statements: YbulkegbcDoorTotals.lean).
  GIVEN WITH THE SEED: the statements are not yours to turn. If you find one false, say at which input.
  Laid BY PROGRAM, IN A SANDBOX (cutbox-rows.mjs): the forced cells as the released guide's own fill.sh prints them over the translation 09ca63a8bdc1ff22… (all of the seat's roots in one cut). By AI agents, Wed Nov 11 2026. No macro, syntax, notation, axiom, sorry.
-/
import Derived.Test.YbulkegbcDoorChecked
import GoSem.Claim
import GoSem.ClaimJoined
import GoSem.ClaimMapViews
import Derived.JoinedTies
import Derived.KernelRfl
namespace Go.Proofs.YbulkegbcDoor
/- THE CELL 'sum', in the pinned program and in every row, IS THE sha256 OF THE DUMP (.gsa) THAT YbulkegbcDoorProg.lean LOADS. Nothing in Lean hashes anything: it is a label: what it is worth is what the hold of that sum in a sandbox is worth. -/
noncomputable def Ybad.pinned : Pinned := { name := "ybulkegbcdoor", sum := "09ca63a8bdc1ff22632e666271e45332441846e262ede690dac70fb338c4995e", checked := Ybad.checked }
namespace Rows
def none {H : Type} : Left H := { results := [], args := [] }

/- WHAT THE LISTED PACKAGE-LEVEL VARIABLES READ AS WHEN THE CALL BEGINS. Each datum BY PROGRAM (the guide's laid-datum.mjs) off the statement by which the dump's own 'gosem.cut.vars' lays the variable. In a bare row this is a premise. The card (YbulkegbcDoorCards.lean) ties it to the program's text. -/
def laid_io_ErrUnexpectedEOF {H : Type} : DataW H := .iface "*errors.errorString" (.ptr (.agg [.lit (.string [117, 110, 101, 120, 112, 101, 99, 116, 101, 100, 32, 69, 79, 70])]))
def laid_example_com_protolathe_protolathe_errVarintTooLong {H : Type} : DataW H := .iface "*errors.errorString" (.ptr (.agg [.lit (.string [118, 97, 114, 105, 110, 116, 32, 108, 111, 110, 103, 101, 114, 32, 116, 104, 97, 110, 32, 49, 48, 32, 98, 121, 116, 101, 115])]))
def laid_example_com_protolathe_protolathe_errTagTooLong {H : Type} : DataW H := .iface "*errors.errorString" (.ptr (.agg [.lit (.string [116, 97, 103, 32, 108, 111, 110, 103, 101, 114, 32, 116, 104, 97, 110, 32, 53, 32, 98, 121, 116, 101, 115])]))

/-- 'protolathe.LawS6619BWhole': WHATEVER THE INPUT: true; the input reads as it did. -/
def lawS6619BWholeSpec : ChangeSpec := { name := "lawS6619BWhole", vars := ["example.com/protolathe/protolathe.errVarintTooLong", "example.com/protolathe/protolathe.errTagTooLong"], fn := fun _ => fun
  | [d1, d2, g1, g2] => { results := [.lit (.bool true)], args := [d1, d2], vars := [g1, g2] }
  | _ => none }
def lawS6619BWholeRow : OpenClaim := { program := "ybulkegbcdoor", sum := "09ca63a8bdc1ff22632e666271e45332441846e262ede690dac70fb338c4995e", func := "example.com/protolathe/protolathe.LawS6619BWhole", spec := "lawS6619BWhole", named := ["io.ErrUnexpectedEOF", "example.com/protolathe/protolathe.errVarintTooLong", "encoding/binary.LittleEndian", "example.com/protolathe/protolathe.errTagTooLong"], ifaces := true, apart := false, laid := [("io.ErrUnexpectedEOF", laid_io_ErrUnexpectedEOF), ("example.com/protolathe/protolathe.errVarintTooLong", laid_example_com_protolathe_protolathe_errVarintTooLong), ("example.com/protolathe/protolathe.errTagTooLong", laid_example_com_protolathe_protolathe_errTagTooLong)] }
def LawS6619BWholeSaid : Prop := lawS6619BWholeRow.holds Ybad.pinned (OpenSpec.ofChange lawS6619BWholeSpec)

/-- ITS FALSE NEIGHBOUR: 'it returns false'. Refute it at one input. -/
def lawS6619BWholeWrong : ChangeSpec := { name := "lawS6619BWhole", vars := ["example.com/protolathe/protolathe.errVarintTooLong", "example.com/protolathe/protolathe.errTagTooLong"], fn := fun _ => fun
  | [d1, d2, g1, g2] => { results := [.lit (.bool false)], args := [d1, d2], vars := [g1, g2] }
  | _ => none }
def LawS6619BWholeWrongFalsely : Prop := lawS6619BWholeRow.holds Ybad.pinned (OpenSpec.ofChange lawS6619BWholeWrong)

end Rows
end Go.Proofs.YbulkegbcDoor
