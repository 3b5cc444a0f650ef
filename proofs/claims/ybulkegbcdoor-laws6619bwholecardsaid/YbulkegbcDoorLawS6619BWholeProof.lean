/-
  The row of LawS6619BWhole, proved: the three sentinels' cells out of the row's condition, the row's step, the row.
-/
import Derived.Test.YbulkegbcDoorRows
import Derived.Test.YbulkegbcDoorWalk
import Derived.WalkKit
import Derived.ProofKit
import Derived.OpenShut
import Derived.Below
import Derived.LaidMore
import Derived.Stop.Joined
import Derived.Stop.LaidErr
import Derived.OpenVars
namespace Go.Proofs.YbulkegbcDoor.lawS6619BWhole
open Go.ChangeShapes Go.WideShapes Go.ChangeAt Go.RowKit

theorem own : ownKnob Ybad.prog.godebug = none := by kernel_rfl
theorem laidOut : laidOutB Ybad.prog = true := by kernel_rfl
theorem cells62 : Ybad.prog.cellsOf 62 = 1 := by kernel_rfl
theorem cells9 : Ybad.prog.cellsOf 9 = 1 := by kernel_rfl
theorem cells5 : Ybad.prog.cellsOf 5 = 1 := by kernel_rfl
theorem gE : Ybad.prog.globalNamed "io.ErrUnexpectedEOF" = some 0 := by kernel_rfl
/-- The second and the third listed variable's names, and the errors' type's name, off the row. -/
def nV : String := (Rows.lawS6619BWholeRow.laid.map (·.1)).getD 1 ""
def nT : String := (Rows.lawS6619BWholeRow.laid.map (·.1)).getD 2 ""
def nS : String := match (Rows.laid_io_ErrUnexpectedEOF : DataW Unit) with
  | .iface n _ => n
  | _ => ""
theorem gV : Ybad.prog.globalNamed nV = some 1 := by kernel_rfl
theorem gT : Ybad.prog.globalNamed nT = some 3 := by kernel_rfl
theorem tE : (Ybad.prog.globals[0]?).map (·.type) = some 30 := by kernel_rfl
theorem tV : (Ybad.prog.globals[1]?).map (·.type) = some 30 := by kernel_rfl
theorem tT : (Ybad.prog.globals[3]?).map (·.type) = some 30 := by kernel_rfl
theorem row43 (u : TypeId) (h : Ybad.prog.typeName? 3 u = some nS) : u = 43 :=
  typeName_ptr_named (P := Ybad.prog) (nm := "errors.errorString") (by kernel_rfl) (by kernel_rfl) (by decide) u (h.trans (by kernel_rfl))

/-- The door's own heap meets the condition: three closed facts. -/
theorem door_met (os : Os) (args : Array Value) : laidMetH Ybad.prog Rows.lawS6619BWholeRow.laid ((World.doorLaid Ybad.prog 66 os).forCall (fun _ _ => 0) ⟨#[], args, []⟩).memory :=
  laidMetH_of_parts3 (fuel := 8) (laidMet_of_run' 8 (by kernel_rfl) (by kernel_rfl)) (by kernel_rfl) (by kernel_rfl)

/-- What the condition gives the walk: each of the three variables holds an error that is not nil. -/
theorem errs_of {W : World} (h : laidMetH Ybad.prog Rows.lawS6619BWholeRow.laid W) : Errs W := by
  rw [MakeChecks.laidMetH_plain _ _ _ (by kernel_rfl)] at h
  have h0 : laidMet Ybad.prog [(_, Rows.laid_io_ErrUnexpectedEOF), (nV, Rows.laid_example_com_protolathe_protolathe_errVarintTooLong), (nT, Rows.laid_example_com_protolathe_protolathe_errTagTooLong)] W := h
  obtain ⟨a0, s0, hv0, _⟩ := laid_sentinel h0 gE tE Ybad.underlying30 row43 Ybad.underlying43 Ybad.underlying62 rfl rfl Ybad.underlying9 cells62 cells9
  obtain ⟨a1, s1, hv1, _⟩ := laid_sentinel h0.tail gV tV Ybad.underlying30 row43 Ybad.underlying43 Ybad.underlying62 rfl rfl Ybad.underlying9 cells62 cells9
  obtain ⟨a3, s3, hv3, _⟩ := laid_sentinel h0.tail.tail gT tT Ybad.underlying30 row43 Ybad.underlying43 Ybad.underlying62 rfl rfl Ybad.underlying9 cells62 cells9
  exact ⟨⟨43, .pointer (some a0), by simpa using World.var?_cell gE hv0 0⟩, ⟨43, .pointer (some a1), by simpa using World.var?_cell gV hv1 0⟩, ⟨43, .pointer (some a3), by simpa using World.var?_cell gT hv3 0⟩⟩

theorem lies_of {w : World} {x : Addr} {n : Nat} {X : Nat → Int} (h : ∀ i, i < n → w.cell? (x.add i) = some (.int .u8 (X i))) : Lies w (some x) n X := by
  by_cases h0 : n = 0
  · exact .inl h0
  · right
    have h1 := h 0 (by omega)
    obtain ⟨b, off, spot⟩ := x
    have hs : spot = none := by simpa [Addr.add] using World.cell?_spot h1
    subst hs
    refine ⟨b, off, rfl, ?_, fun i hi => ?_⟩
    · have := World.block_lt_of_cell? _ _ h1
      rw [add_plain] at this
      exact this
    · rw [← add_plain]; exact h i hi

set_option maxRecDepth 100000 in
theorem lifted (os : Os) (started : os.Started) (H : Type) (enc : TypeId × Value → H) :
    ReturnsInHanded {} Ybad.checked os 3 .any (fun w args => (Rows.lawS6619BWholeSpec.pre enc Ybad.prog Ybad.f3 [] false w args ∧ laidMetH Ybad.prog Rows.lawS6619BWholeRow.laid w) ∧ sizedMet enc Ybad.prog Ybad.f3 (OpenSpec.ofChange Rows.lawS6619BWholeSpec) false w args)
      (Rows.lawS6619BWholeSpec.post enc Ybad.prog Ybad.f3 false true false false) := by
  refine returnsInHanded_of_change_and (C := Ybad.checked) (X := fun w _ => laidMetH Ybad.prog Rows.lawS6619BWholeRow.laid w) (fun _ _ _ hh h => h.of_heap hh) own started (by kernel_rfl) Ybad.func3
    (ChangeSpec.witness_shaped (enc := enc) (C := Ybad.checked) (os := os) (X := fun w _ => laidMetH Ybad.prog Rows.lawS6619BWholeRow.laid w) false (World.doorLaid Ybad.prog 66 os) #[.slice none 0 0, .int .u64 0] 8 rfl (World.shaped_of_RefB (by kernel_rfl) (by kernel_rfl)) (by kernel_rfl) (by kernel_rfl) (by kernel_rfl) (door_met os _)) ?_
  intro W base args ds gs before hval0 hW _ _ hL _
  have hval : ∀ (j : Nat) t v, Ybad.f3.params[j]? = some t → args[j]? = some v → Value.okWide Ybad.prog W .any base t v := hval0
  have hW' := hW
  obtain ⟨p, q, hA0, hV0, rfl, hfz, hnd⟩ := hW
  have hA : DataW.TrodAll enc Ybad.prog W 0 (fun _ => true) true Ybad.f3.params.toList args.toList ds p := hA0
  have hV : DataW.TrodVars enc Ybad.prog W (fun _ => true) [nV, nT] gs q := hV0
  rw [Ybad.params3] at hA hval
  obtain ⟨v0, v1, d0, d1, p0, p1, rfl, rfl, rfl, h0, h1⟩ := trodAll_two hA
  have k0 := h0
  have lt0 : ∀ x ∈ p0, x.block < W.heap.size := by obtain ⟨m, hm⟩ := k0; exact DataW.trod_lt m _ _ _ hm
  have k1 := h1
  have lt1 : ∀ x ∈ p1, x.block < W.heap.size := by obtain ⟨m, hm⟩ := k1; exact DataW.trod_lt m _ _ _ hm
  obtain ⟨tag, rfl, _, _, wt⟩ := open_int Ybad.underlying23 (hval 1 23 v1 rfl rfl) h1
  obtain ⟨a, n, c, rfl⟩ := okWide_slice Ybad.underlying22 (hval 0 22 v0 rfl rfl)
  obtain ⟨hm, hnc, hz, X, hX, hl⟩ : n ≤ maxLen ∧ n ≤ c ∧ (a = none → n = 0) ∧ ∃ X : Nat → Int, (∀ i, 0 ≤ X i ∧ X i ≤ 255) ∧ Lies W a n X := by
    obtain ⟨fuel, hf⟩ := h0
    rcases open_ints Ybad.underlying22 Ybad.underlying5 cells5 hf with ⟨hcs, _⟩ | ⟨x, l, c', zs, hcs, _, hl, hm, hz, hx, hcell, hwz⟩
    · simp [Value.cells] at hcs
      obtain ⟨rfl, rfl, rfl⟩ := hcs
      exact ⟨Nat.zero_le _, Nat.le_refl _, fun _ => rfl, fun _ => 0, fun _ => ⟨Int.le_refl 0, show (0 : Int) ≤ 255 by decide⟩, .inl rfl⟩
    · simp [Value.cells] at hcs
      obtain ⟨rfl, rfl, rfl⟩ := hcs
      simp only [if_true] at hz
      exact ⟨by omega, by omega, (fun h => by cases h), fun i => zs.getD i 0, fun i => by simpa using range_u8 hwz i, lies_of fun i hi => hcell i (by omega)⟩
  have he := errs_of hL
  have ht := bounds_u64 wt
  clear hA0 hval0
  have wk : Calls Ybad.prog 3 #[.slice a n c, .int .u64 tag] W fun e w' => e = .returned (.bool true) ∧ Below W.heap.size W w' := by
    by_cases hn : 1048576 < n
    · exact (walk_long a n c tag W hn hm).mono fun e w' ⟨h1, h2⟩ => ⟨h1, by rw [h2]; exact Below.refl _ _⟩
    · exact walk_short a n c tag X W (by omega) hnc ht.1 ht.2 hl hX hz he
  have e1 : ∃ g1 g2, gs = [g1, g2] := by
    match gs, hV with
    | [g1, g2], _ => exact ⟨g1, g2, rfl⟩
    | [], h => exact h.elim
    | [_], h => obtain ⟨_, _, _, _, _, _, _, _, _, _, h, _⟩ := h; exact h.elim
    | _ :: _ :: _ :: _, h => obtain ⟨_, _, _, _, _, _, _, _, _, _, ⟨_, _, _, _, _, _, _, _, _, _, h, _⟩, _⟩ := h; exact h.elim
  obtain ⟨g1, g2, rfl⟩ := e1
  refine wk.mono fun e W' ⟨he, bel⟩ => ?_
  subst he
  exact ⟨_, rfl, _, _, _, [], _, _, hW', trodAll_mk1 (shut_bool Ybad.underlying4 _), (trodAll_cons_mk (Below.trod laidOut (by kernel_rfl) (of_decide_eq_true (by kernel_rfl)) k0 bel lt0) (trodAll_cons_mk (Below.trod laidOut (by kernel_rfl) (of_decide_eq_true (by kernel_rfl)) k1 bel lt1) trodAll_mk0)), Below.trodVars laidOut bel (by kernel_rfl) hV, bel.frame _, fun h => by cases h⟩

/-- The row. -/
theorem over : Rows.LawS6619BWholeSaid :=
  OpenClaim.holds_of_wide 3 Ybad.f3 rfl rfl rfl rfl rfl rfl rfl ⟨rfl, rfl, rfl, rfl, rfl⟩ rfl rfl rfl rfl rfl (by kernel_rfl) Ybad.func3 (by kernel_rfl)
    (of_decide_eq_true (by kernel_rfl)) (by unfold Func.isWrapper; first | (rw [if_pos (by decide +kernel)]; kernel_rfl) | (rw [if_neg (by decide +kernel)]; exact ⟨rfl, rfl⟩))
    (fun os started H enc _ => lifted os started H enc)
#print axioms over
end Go.Proofs.YbulkegbcDoor.lawS6619BWhole
