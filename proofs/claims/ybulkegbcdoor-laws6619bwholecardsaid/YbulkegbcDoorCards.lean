/-
  DERIVED. GIVEN WITH THE SEED: THE CARDS: each row of YbulkegbcDoorRows.lean that lists a variable, with what it lists TIED to the program's text (the seventh form; the later family's looks); each row that meets fmt, with fmt's text TOLD by the authors' own Lean function (tested against real Go, not proved from fmt's source: count such statements apart). THE CARD IS WHAT COUNTS. Prove the row's statement (the work); the ties are given (YbulkegbcDoorTie.lean); close each card by the builder's one call (the guide's Derived/Test/ToyasCard.lean, 'card_holds'). Laid BY PROGRAM, IN A SANDBOX (cutbox-door.mjs). By AI agents, Wed Nov 11 2026. No macro, syntax, notation, axiom, sorry.
-/
import Derived.Test.YbulkegbcDoorRows
import GoSem.ClaimSeven
namespace Go.Proofs.YbulkegbcDoor
namespace Rows

/-- THE TIED CARD OF 'protolathe.LawS6619BWhole'. -/
def lawS6619BWholeCard : Claim7 := { stood := { row := lawS6619BWholeRow, standIns := [], harness := (true, "3286edfcba758c8f824c094d838a06389c9f3284aebed1de1a2c91caa33d6b09"), looks := false }, kinds := [], alts := [], laidByText := true, laidKinds := [.sentinel, .sentinel, .sentinel], laidTests := true, laidLooks := .later }
def LawS6619BWholeCardSaid : Prop := Claim7.holds Ybad.pinned (.plain (OpenSpec.ofChange lawS6619BWholeSpec)) lawS6619BWholeCard
end Rows
end Go.Proofs.YbulkegbcDoor
