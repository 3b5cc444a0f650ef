/-
  stopCompiling (function 6) by its contract, and what it calls: setCompiling (9), setCell (10), flag (11), PutUint64 (12).
-/
import Derived.Test.YbulkefxwRows
import Derived.WalkKit
import Derived.ProofKit
import Derived.WalkSpells
import Derived.WalkLawsBesides
import Derived.Lib.SliceRun
import Derived.Below
import Derived.WalkSmall
import Derived.RegionTactic
import Derived.BigRegion
import Derived.Deep.RegionWith
namespace Go.Proofs.Ybulkefxw
open Go.RowKit Go.Lib

theorem flag_false (w : World) : Calls Yba.prog 11 #[.bool false] w fun e w' => e = .returned (.int .i64 0) ∧ w' = w := by
  go_enter Yba.func11, Yba.ntmps11
  go_wp2
  go_ret
  exact ⟨rfl, rfl⟩

/-- The eight bytes of STATE's cell, all zero. -/
def zero8 (w : World) (ge : Nat) : World :=
  (((((((w.setCell ⟨ge, 9, none⟩ (.int .u8 0)).setCell ⟨ge, 10, none⟩ (.int .u8 0)).setCell ⟨ge, 11, none⟩ (.int .u8 0)).setCell ⟨ge, 12, none⟩ (.int .u8 0)).setCell ⟨ge, 13, none⟩ (.int .u8 0)).setCell ⟨ge, 14, none⟩ (.int .u8 0)).setCell ⟨ge, 15, none⟩ (.int .u8 0)).setCell ⟨ge, 16, none⟩ (.int .u8 0)

set_option maxRecDepth 100000 in
theorem put0 (ge : Nat) (w : World) (b0 b1 b2 b3 b4 b5 b6 b7 : Value)
    (h0 : w.cell? ⟨ge, 9, none⟩ = some b0) (h1 : w.cell? ⟨ge, 10, none⟩ = some b1) (h2 : w.cell? ⟨ge, 11, none⟩ = some b2) (h3 : w.cell? ⟨ge, 12, none⟩ = some b3)
    (h4 : w.cell? ⟨ge, 13, none⟩ = some b4) (h5 : w.cell? ⟨ge, 14, none⟩ = some b5) (h6 : w.cell? ⟨ge, 15, none⟩ = some b6) (h7 : w.cell? ⟨ge, 16, none⟩ = some b7)
    (f : ∀ o, w.frozen? ⟨ge, o, none⟩ = false) (hg : ge < w.heap.size) :
    Calls Yba.prog 12 #[.agg #[], .slice (some ⟨ge, 9, none⟩) 8 8, .int .u64 0] w fun e w' => e = .returned (.tuple #[]) ∧ w' = (zero8 w ge).alloc (.cells #[] 73) := by
  go_enter Yba.func12, Yba.ntmps12
  go_wp2
  go_end0
  exact ⟨rfl, rfl⟩

/-- What is asked of the Evaluator's block: the cells that are written are there, and none is frozen. -/
structure Open (w : World) (ge : Nat) : Prop where
  lt : ge < w.heap.size
  free : ∀ o, w.frozen? ⟨ge, o, none⟩ = false
  there : ∀ o, o < 450 → ∃ v, w.cell? ⟨ge, o, none⟩ = some v

theorem Open.setCell {w : World} {ge : Nat} (h : Open w ge) (o : Nat) (ho : o < 450) (v : Value) : Open (w.setCell ⟨ge, o, none⟩ v) ge where
  lt := by simpa using h.lt
  free k := by rw [World.frozen?_setCell]; exact h.free k
  there k hk := by
    obtain ⟨u, hu⟩ := h.there o ho
    by_cases e : k = o
    · subst e; exact ⟨_, World.cell?_setCell_same _ _ _ hu⟩
    · obtain ⟨x, hx⟩ := h.there k hk
      refine ⟨x, ?_⟩
      rw [World.cell?_setCell_other _ _ _ _ (by intro h'; injection h' with _ h2 _; omega)]
      exact hx

theorem setCell0 (ge : Nat) (w : World) (h : Open w ge) :
    Calls Yba.prog 10 #[.slice (some ⟨ge, 9, none⟩) 8 8, .int .i64 0] w fun e w' => e = .returned (.tuple #[]) ∧ w' = (zero8 w ge).alloc (.cells #[] 73) := by
  obtain ⟨b0, h0⟩ := h.there 9 (by omega)
  obtain ⟨b1, h1⟩ := h.there 10 (by omega)
  obtain ⟨b2, h2⟩ := h.there 11 (by omega)
  obtain ⟨b3, h3⟩ := h.there 12 (by omega)
  obtain ⟨b4, h4⟩ := h.there 13 (by omega)
  obtain ⟨b5, h5⟩ := h.there 14 (by omega)
  obtain ⟨b6, h6⟩ := h.there 15 (by omega)
  obtain ⟨b7, h7⟩ := h.there 16 (by omega)
  have hp : Hid (Calls Yba.prog 12 #[.agg #[], .slice (some ⟨ge, 9, none⟩) 8 8, .int .u64 0] w fun e w' => e = .returned (.tuple #[]) ∧ w' = (zero8 w ge).alloc (.cells #[] 73)) := put0 ge w b0 b1 b2 b3 b4 b5 b6 b7 h0 h1 h2 h3 h4 h5 h6 h7 h.free h.lt
  clear h0 h1 h2 h3 h4 h5 h6 h7
  go_enter Yba.func10, Yba.ntmps10
  go_wp2_with fail
  refine hp.out.mono ?_
  rintro e w' ⟨rfl, rfl⟩
  go_wp2
  go_end0
  exact ⟨rfl, rfl⟩

set_option maxHeartbeats 1000000 in
theorem setCompiling_false (ge : Nat) (w : World) (h : Open w ge) :
    Calls Yba.prog 9 #[.pointer (some ⟨ge, 0, none⟩), .bool false] w fun e w' => e = .returned (.tuple #[]) ∧ w' = (zero8 w.drew ge).alloc (.cells #[] 73) := by
  have o1 : Open w.drew ge := ⟨h.lt, h.free, h.there⟩
  go_enter Yba.func9, Yba.ntmps9
  go_wp2_with fail
  go_region_with (first | (go_at_call 11; refine (flag_false _).mono ?_; rintro e w' ⟨rfl, rfl⟩) | (go_at_call 10; refine (setCell0 ge w.drew o1).mono ?_; rintro e w' ⟨rfl, rfl⟩))
  all_goals go_wp2
  all_goals go_end0
  all_goals exact ⟨rfl, rfl⟩

theorem cell_set {w : World} {ge : Nat} (h : Open w ge) (k : Nat) (hk : k < 450) (v : Value) (o : Nat) : (w.setCell ⟨ge, k, none⟩ v).cell? ⟨ge, o, none⟩ = if o = k then some v else w.cell? ⟨ge, o, none⟩ := by
  obtain ⟨u, hu⟩ := h.there k hk
  by_cases e : o = k
  · subst e; rw [if_pos rfl]; exact World.cell?_setCell_same _ _ _ hu
  · rw [if_neg e]; exact World.cell?_setCell_other _ _ _ _ (by intro h'; injection h' with _ h2 _; omega)

theorem zero8_open {w : World} {ge : Nat} (h : Open w ge) : Open (zero8 w ge) ge :=
  (((((((h.setCell 9 (by omega) _).setCell 10 (by omega) _).setCell 11 (by omega) _).setCell 12 (by omega) _).setCell 13 (by omega) _).setCell 14 (by omega) _).setCell 15 (by omega) _).setCell 16 (by omega) _

theorem zero8_cell {w : World} {ge : Nat} (h : Open w ge) (o : Nat) : (zero8 w ge).cell? ⟨ge, o, none⟩ = if 9 ≤ o ∧ o < 17 then some (.int .u8 0) else w.cell? ⟨ge, o, none⟩ := by
  have o1 := h.setCell 9 (by omega) (.int .u8 0)
  have o2 := o1.setCell 10 (by omega) (.int .u8 0)
  have o3 := o2.setCell 11 (by omega) (.int .u8 0)
  have o4 := o3.setCell 12 (by omega) (.int .u8 0)
  have o5 := o4.setCell 13 (by omega) (.int .u8 0)
  have o6 := o5.setCell 14 (by omega) (.int .u8 0)
  have o7 := o6.setCell 15 (by omega) (.int .u8 0)
  unfold zero8
  rw [cell_set o7 16 (by omega), cell_set o6 15 (by omega), cell_set o5 14 (by omega), cell_set o4 13 (by omega), cell_set o3 12 (by omega), cell_set o2 11 (by omega), cell_set o1 10 (by omega), cell_set h 9 (by omega)]
  by_cases hb : 9 ≤ o ∧ o < 17
  · rw [if_pos hb]
    have : o = 9 ∨ o = 10 ∨ o = 11 ∨ o = 12 ∨ o = 13 ∨ o = 14 ∨ o = 15 ∨ o = 16 := by omega
    rcases this with rfl | rfl | rfl | rfl | rfl | rfl | rfl | rfl <;> rfl
  · rw [if_neg hb, if_neg (by omega), if_neg (by omega), if_neg (by omega), if_neg (by omega), if_neg (by omega), if_neg (by omega), if_neg (by omega), if_neg (by omega)]

theorem zero8_below {w : World} {ge : Nat} : Below ge w (zero8 w ge) :=
  ((((((((Below.refl ge w).setCell (Nat.le_refl _) _).setCell (Nat.le_refl _) _).setCell (Nat.le_refl _) _).setCell (Nat.le_refl _) _).setCell (Nat.le_refl _) _).setCell (Nat.le_refl _) _).setCell (Nat.le_refl _) _).setCell (Nat.le_refl _) _

/-- What stopCompiling leaves: four fields and STATE's eight bytes are written; all below the Evaluator's block, and its other cells, are as they were. -/
structure Stopped (w w' : World) (ge : Nat) (p : Option Addr) (c : Nat) (q : Option Addr) (d : Nat) : Prop where
  below : Below ge w w'
  c7 : w'.cell? ⟨ge, 7, none⟩ = some (.pointer none)
  c449 : w'.cell? ⟨ge, 449, none⟩ = some (.bool false)
  c25 : w'.cell? ⟨ge, 25, none⟩ = some (.slice p 0 c)
  c26 : w'.cell? ⟨ge, 26, none⟩ = some (.slice q 0 d)
  state : ∀ o, 9 ≤ o → o < 17 → w'.cell? ⟨ge, o, none⟩ = some (.int .u8 0)
  other : ∀ o, o ≠ 7 → o ≠ 449 → o ≠ 25 → o ≠ 26 → ¬ (9 ≤ o ∧ o < 17) → w'.cell? ⟨ge, o, none⟩ = w.cell? ⟨ge, o, none⟩

theorem Open.drew {w : World} {ge : Nat} (h : Open w ge) : Open w.drew ge := ⟨h.lt, h.free, h.there⟩

theorem zero8_stopped {w X w' : World} {ge : Nat} {p : Option Addr} {c : Nat} {q : Option Addr} {d : Nat} (oX : Open X ge) (hb : Below ge w X)
    (hx : ∀ o, X.cell? ⟨ge, o, none⟩ = if o = 26 then some (.slice q 0 d) else if o = 25 then some (.slice p 0 c) else if o = 449 then some (.bool false) else if o = 7 then some (.pointer none) else w.cell? ⟨ge, o, none⟩)
    (hw : w' = (zero8 X ge).alloc (.cells #[] 73)) : Stopped w w' ge p c q d := by
  have o5 := zero8_open oX
  have hz := zero8_cell oX
  have hb2 : Below ge X (zero8 X ge) := zero8_below
  generalize zero8 X ge = Z at *
  have hc : ∀ o, w'.cell? ⟨ge, o, none⟩ = Z.cell? ⟨ge, o, none⟩ := fun o => by
    have e : w'.heap[ge]? = Z.heap[ge]? := by
      rw [hw]
      exact Below.heap_alloc _ _ _ o5.lt
    exact World.cell?_of_block e
  refine ⟨?_, ?_, ?_, ?_, ?_, ?_, ?_⟩
  · rw [hw]
    exact (hb.trans hb2).alloc (Nat.le_of_lt o5.lt) _
  · rw [hc, hz, hx]; rfl
  · rw [hc, hz, hx]; rfl
  · rw [hc, hz, hx]; rfl
  · rw [hc, hz, hx]; rfl
  · intro o h1 h2
    rw [hc, hz, if_pos ⟨h1, h2⟩]
  · intro o h1 h2 h3 h4 h5
    rw [hc, hz, if_neg h5, hx, if_neg h4, if_neg h3, if_neg h2, if_neg h1]

set_option maxHeartbeats 400000 in
theorem stop_any (ge n c m d : Nat) (p q : Option Addr) (w : World) (h : Open w ge) (h25 : w.cell? ⟨ge, 25, none⟩ = some (.slice p n c)) (h26 : w.cell? ⟨ge, 26, none⟩ = some (.slice q m d)) :
    Calls Yba.prog 6 #[.pointer (some ⟨ge, 0, none⟩)] w fun e w' => e = .returned (.tuple #[]) ∧ Stopped w w' ge p c q d := by
  obtain ⟨b7, h7⟩ := h.there 7 (by omega)
  obtain ⟨b449, h449⟩ := h.there 449 (by omega)
  have f := h.free
  have o1 := h.setCell 7 (by omega) (.pointer none)
  have o2 := o1.setCell 449 (by omega) (.bool false)
  have o3 := o2.setCell 25 (by omega) (.slice p 0 c)
  have o4 := o3.setCell 26 (by omega) (.slice q 0 d)
  have hx : Hid (∀ o, ((((w.setCell ⟨ge, 7, none⟩ (.pointer none)).setCell ⟨ge, 449, none⟩ (.bool false)).setCell ⟨ge, 25, none⟩ (.slice p 0 c)).setCell ⟨ge, 26, none⟩ (.slice q 0 d)).cell? ⟨ge, o, none⟩ = if o = 26 then some (.slice q 0 d) else if o = 25 then some (.slice p 0 c) else if o = 449 then some (.bool false) else if o = 7 then some (.pointer none) else w.cell? ⟨ge, o, none⟩) := fun o => by
    rw [cell_set o3 26 (by omega), cell_set o2 25 (by omega), cell_set o1 449 (by omega), cell_set h 7 (by omega)]
  have hb : Below ge w ((((w.setCell ⟨ge, 7, none⟩ (.pointer none)).setCell ⟨ge, 449, none⟩ (.bool false)).setCell ⟨ge, 25, none⟩ (.slice p 0 c)).setCell ⟨ge, 26, none⟩ (.slice q 0 d)) :=
    ((((Below.refl ge w).setCell (Nat.le_refl _) _).setCell (Nat.le_refl _) _).setCell (Nat.le_refl _) _).setCell (Nat.le_refl _) _
  clear o1 o2 o3
  go_enter Yba.func6, Yba.ntmps6
  go_wp2_with fail
  go_region
  go_wp2_with fail
  generalize (((w.setCell ⟨ge, 7, none⟩ (.pointer none)).setCell ⟨ge, 449, none⟩ (.bool false)).setCell ⟨ge, 25, none⟩ (.slice p 0 c)).setCell ⟨ge, 26, none⟩ (.slice q 0 d) = X at *
  refine (setCompiling_false ge _ o4.drew).mono ?_
  rintro e w' ⟨rfl, hw⟩
  have hs : Stopped w w' ge p c q d := zero8_stopped o4.drew.drew hb.drew.drew hx.out hw
  clear hw hx hb o4
  go_wp2
  go_end0
  exact ⟨rfl, hs⟩

end Go.Proofs.Ybulkefxw
