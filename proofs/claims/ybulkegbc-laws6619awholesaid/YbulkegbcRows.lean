/-
  No cell of these rows narrows 'for every input' (looked for: loops, veiled, ifaces, maps, wideKeys, modest, calm, conditions, laid).
  DERIVED. THE GIVEN ROWS OF THIS SEAT. 1 by the template 'for every input the law returns true; each argument reads behind the call as it read before'; 0 by the template 'total and deterministic' (their statements: YbulkegbcTotals.lean).
  GIVEN WITH THE SEED: the statements are not yours to turn. If you find one false, say at which input.
  Laid BY PROGRAM, IN A SANDBOX (cutbox-rows.mjs): the forced cells as the released guide's own fill.sh prints them over the translation 8af0468d859a4dd1… (all of the seat's roots in one cut). By AI agents, Wed Nov 11 2026. No macro, syntax, notation, axiom, sorry.
-/
import Derived.Test.YbulkegbcChecked
import GoSem.Claim
import GoSem.ClaimJoined
import GoSem.ClaimMapViews
import Derived.JoinedTies
import Derived.KernelRfl
namespace Go.Proofs.Ybulkegbc
/- THE CELL 'sum', in the pinned program and in every row, IS THE sha256 OF THE DUMP (.gsa) THAT YbulkegbcProg.lean LOADS. Nothing in Lean hashes anything: it is a label: what it is worth is what the hold of that sum in a sandbox is worth. -/
noncomputable def Yba.pinned : Pinned := { name := "ybulkegbc", sum := "8af0468d859a4dd1115a8e7301392a18f919ecfb289040671eda316d0a2746b9", checked := Yba.checked }
namespace Rows
def none {H : Type} : Left H := { results := [], args := [] }

/-- 'wkt.LawS6619AWhole': WHATEVER THE INPUT: true; the input reads as it did. -/
def lawS6619AWholeSpec : ChangeSpec := { name := "lawS6619AWhole", fn := fun _ => fun
  | [d1, d2, d3, d4, d5, d6, d7, d8] => { results := [.lit (.bool true)], args := [d1, d2, d3, d4, d5, d6, d7, d8] }
  | _ => none }
def lawS6619AWholeRow : OpenClaim := { program := "ybulkegbc", sum := "8af0468d859a4dd1115a8e7301392a18f919ecfb289040671eda316d0a2746b9", func := "example.com/protolathe/protolathe/internal/checks/wkt.LawS6619AWhole", spec := "lawS6619AWhole", apart := false }
def LawS6619AWholeSaid : Prop := lawS6619AWholeRow.holds Yba.pinned (OpenSpec.ofChange lawS6619AWholeSpec)

/-- ITS FALSE NEIGHBOUR: 'it returns false'. Refute it at one input. -/
def lawS6619AWholeWrong : ChangeSpec := { name := "lawS6619AWhole", fn := fun _ => fun
  | [d1, d2, d3, d4, d5, d6, d7, d8] => { results := [.lit (.bool false)], args := [d1, d2, d3, d4, d5, d6, d7, d8] }
  | _ => none }
def LawS6619AWholeWrongFalsely : Prop := lawS6619AWholeRow.holds Yba.pinned (OpenSpec.ofChange lawS6619AWholeWrong)

end Rows
end Go.Proofs.Ybulkegbc
