/-
  The tied card of LawS6619BWhole: the row proved, its tie given.
-/
import Derived.Test.YbulkegbcDoorRows
import Derived.Test.YbulkegbcDoorTie
import Derived.Test.YbulkegbcDoorCards
import Derived.Test.YbulkegbcDoorLawS6619BWholeProof
import Derived.SevenTiedAt
namespace Go.Proofs.YbulkegbcDoor.lawS6619BWhole
open Go

/-- The statement. -/
theorem proved : Rows.LawS6619BWholeCardSaid :=
  Claim7.holds_tied_plain_at .later [] [.sentinel, .sentinel, .sentinel] true (true, "3286edfcba758c8f824c094d838a06389c9f3284aebed1de1a2c91caa33d6b09") false
    over (fun _ h => by cases h) (by kernel_rfl) (fun _ h => by cases h) lawS6619BWhole_row_tie rfl ⟨rfl, rfl⟩ (by kernel_rfl) rfl
    (fun f fn hf hfn => by
      obtain rfl : f = 3 := Option.some.inj ((show Ybad.prog.funcNamed Rows.lawS6619BWholeRow.func = some 3 by kernel_rfl).symm.trans hf) |>.symm
      obtain rfl : fn = Ybad.f3 := (Option.some.inj (Ybad.func3.symm.trans hfn)).symm
      exact ⟨by kernel_rfl, fun j t ht => by
        rw [Ybad.params3] at ht
        have hm : t ∈ [22, 23] := by simpa using Array.mem_of_getElem? ht
        have hall : ([22, 23].all fun u => !Ybad.prog.wantsStandIn u) = true := by kernel_rfl
        exact (show Ybad.prog.wantsStandIn t = false by simpa using List.all_eq_true.1 hall t hm)⟩)
    (by kernel_rfl)
#print axioms proved
end Go.Proofs.YbulkegbcDoor.lawS6619BWhole
