/-
  No cell of these rows narrows 'for every input' (looked for: loops, veiled, ifaces, maps, wideKeys, modest, calm, conditions, laid).
  DERIVED. THE GIVEN ROWS OF THIS SEAT. 2 by the template 'for every input the law returns true; each argument reads behind the call as it read before'; 0 by the template 'total and deterministic' (their statements: YbulkefxwTotals.lean).
  GIVEN WITH THE SEED: the statements are not yours to turn. If you find one false, say at which input.
  Laid BY PROGRAM, IN A SANDBOX (cutbox-rows.mjs): the forced cells as the released guide's own fill.sh prints them over the translation 9fad6c7779306030… (all of the seat's roots in one cut). By AI agents, Wed Nov 11 2026. No macro, syntax, notation, axiom, sorry.
-/
import Derived.Test.YbulkefxwChecked
import GoSem.Claim
import GoSem.ClaimJoined
import GoSem.ClaimMapViews
import Derived.JoinedTies
import Derived.KernelRfl
namespace Go.Proofs.Ybulkefxw
/- THE CELL 'sum', in the pinned program and in every row, IS THE sha256 OF THE DUMP (.gsa) THAT YbulkefxwProg.lean LOADS. Nothing in Lean hashes anything: it is a label: what it is worth is what the hold of that sum in a sandbox is worth. -/
noncomputable def Yba.pinned : Pinned := { name := "ybulkefxw", sum := "9fad6c777930603078f4610af98b9d1088d0909bd535a92d53687820d6a56864", checked := Yba.checked }
namespace Rows
def none {H : Type} : Left H := { results := [], args := [] }

/-- 'stackwright.LawS6613AWhole': WHATEVER THE INPUT: true; the input reads as it did. -/
def lawS6613AWholeSpec : ChangeSpec := { name := "lawS6613AWhole", fn := fun _ => fun
  | [d1, d2, d3] => { results := [.lit (.bool true)], args := [d1, d2, d3] }
  | _ => none }
def lawS6613AWholeRow : OpenClaim := { program := "ybulkefxw", sum := "9fad6c777930603078f4610af98b9d1088d0909bd535a92d53687820d6a56864", func := "example.com/stackwright/stackwright.LawS6613AWhole", spec := "lawS6613AWhole", apart := false }
def LawS6613AWholeSaid : Prop := lawS6613AWholeRow.holds Yba.pinned (OpenSpec.ofChange lawS6613AWholeSpec)

/-- ITS FALSE NEIGHBOUR: 'it returns false'. Refute it at one input. -/
def lawS6613AWholeWrong : ChangeSpec := { name := "lawS6613AWhole", fn := fun _ => fun
  | [d1, d2, d3] => { results := [.lit (.bool false)], args := [d1, d2, d3] }
  | _ => none }
def LawS6613AWholeWrongFalsely : Prop := lawS6613AWholeRow.holds Yba.pinned (OpenSpec.ofChange lawS6613AWholeWrong)

/-- 'stackwright.LawS6613BWhole': WHATEVER THE INPUT: true; the input reads as it did. -/
def lawS6613BWholeSpec : ChangeSpec := { name := "lawS6613BWhole", fn := fun _ => fun
  | [d1, d2, d3, d4, d5, d6, d7, d8, d9, d10, d11, d12] => { results := [.lit (.bool true)], args := [d1, d2, d3, d4, d5, d6, d7, d8, d9, d10, d11, d12] }
  | _ => none }
def lawS6613BWholeRow : OpenClaim := { program := "ybulkefxw", sum := "9fad6c777930603078f4610af98b9d1088d0909bd535a92d53687820d6a56864", func := "example.com/stackwright/stackwright.LawS6613BWhole", spec := "lawS6613BWhole", named := ["encoding/binary.LittleEndian"], apart := false }
def LawS6613BWholeSaid : Prop := lawS6613BWholeRow.holds Yba.pinned (OpenSpec.ofChange lawS6613BWholeSpec)

/-- ITS FALSE NEIGHBOUR: 'it returns false'. Refute it at one input. -/
def lawS6613BWholeWrong : ChangeSpec := { name := "lawS6613BWhole", fn := fun _ => fun
  | [d1, d2, d3, d4, d5, d6, d7, d8, d9, d10, d11, d12] => { results := [.lit (.bool false)], args := [d1, d2, d3, d4, d5, d6, d7, d8, d9, d10, d11, d12] }
  | _ => none }
def LawS6613BWholeWrongFalsely : Prop := lawS6613BWholeRow.holds Yba.pinned (OpenSpec.ofChange lawS6613BWholeWrong)

end Rows
end Go.Proofs.Ybulkefxw
