/-
  The walk of LawS6612BWhole where a slice is too long, and where the copy has no item.
-/
import Derived.Test.YbulkefxiParts
import Derived.Deep.CutRange
import Derived.Laws.CopyOwn
namespace Go.Proofs.Ybulkefxi
open Go.RowKit Go.Lib

set_option maxRecDepth 100000 in
theorem walk_long (a0 : Int) (a1 : Option Addr) (n1 c1 : Nat) (a2 : Option Addr) (n2 c2 : Nat) (a3 : Int) (w : World) (h1 : n1 ≤ maxLen) (h2 : n2 ≤ maxLen) (h : 1048576 < n1 ∨ 1048576 < n2) :
    Calls Yba.prog 3 #[.int .u8 a0, .slice a1 n1 c1, .slice a2 n2 c2, .int .i64 a3] w fun e w' => e = .returned (.bool true) ∧ Below w.heap.size w w' := by
  unfold maxLen at h1 h2
  by_cases h0 : 1048576 < n1
  · go_enter Yba.func3, Yba.ntmps3
    go_wp2
    go_ret
    exact ⟨rfl, Below.refl _ _⟩
  · have h3 : 1048576 < n2 := by omega
    go_enter Yba.func3, Yba.ntmps3
    go_wp2
    go_ret
    exact ⟨rfl, Below.refl _ _⟩

theorem make22 (w : World) : (Instr.makeSlice 22 (.int .i64 0) (.int .i64 0)).run Yba.prog w = .ok (.slice (some ⟨w.heap.size, 0, none⟩) 0 0) (w.alloc (.cells #[] 2)) := by kernel_rfl
theorem make23 (w : World) : (Instr.makeSlice 23 (.int .i64 0) (.int .i64 0)).run Yba.prog w = .ok (.slice (some ⟨w.heap.size, 0, none⟩) 0 0) (w.alloc (.cells #[] 9)) := by kernel_rfl
theorem make24 (w : World) : (Instr.makeSlice 24 (.int .i64 0) (.int .i64 0)).run Yba.prog w = .ok (.slice (some ⟨w.heap.size, 0, none⟩) 0 0) (w.alloc (.cells #[] 34)) := by kernel_rfl
theorem make35 (w : World) : (Instr.makeSlice 35 (.int .i64 0) (.int .i64 0)).run Yba.prog w = .ok (.slice (some ⟨w.heap.size, 0, none⟩) 0 0) (w.alloc (.cells #[] 36)) := by kernel_rfl

set_option maxHeartbeats 1000000 in
set_option maxRecDepth 100000 in
theorem zero0 (a0 : Int) (a1 : Option Addr) (c1 : Nat) (a2 : Option Addr) (n2 c2 : Nat) (a3 : Int) (w : World) (h00 : 0 ≤ a0) (h01 : a0 ≤ 255) (h2 : n2 ≤ 1048576) (hm : a0 % 4 = 0) :
    Calls Yba.prog 3 #[.int .u8 a0, .slice a1 0 c1, .slice a2 n2 c2, .int .i64 a3] w fun e w' => e = .returned (.bool true) ∧ Below w.heap.size w w' := by
  have HM : Hid (∀ v : Value, v = .int .i64 (wrap64 (a0.tmod 4)) → v = .int .i64 0) := fun v hv => hv.trans (mode_eq h00 h01 hm)
  clear hm h00 h01
  have k1 := make22; have k2 := make23; have k3 := make24; have k4 := make35
  go_enter Yba.func3, Yba.ntmps3
  go_upto_region 3 with fail
  go_cut [9] from 43 to 45 (fun v wx => v = .int .i64 0 ∧ w = wx)
  case first =>
    go_wp2_with fail
    go_meet
    case rel => exact ⟨HM.out _ rfl, rfl⟩
  case rest =>
    obtain ⟨rfl, rfl⟩ := hcut
    clear HM
    go_upto_region 21 with fail
    go_wp2_with (refine wpList_copy_nothing rfl (.tmp 93) (.tmp 94) 22 22 rfl 2 Yba.underlying22 Yba.size2 _ _ _ _ _ _ rfl rfl rfl ?_)
    go_wp2_with fail
    refine wp_loop_rounds 1 ?_
    rw [rounds_succ]
    go_wp2
    go_ret
    exact ⟨rfl, by repeat (first | exact Below.refl _ _ | refine Below.alloc ?_ (by simp <;> omega) _)⟩

set_option maxHeartbeats 1000000 in
set_option maxRecDepth 100000 in
theorem zero1 (a0 : Int) (a1 : Option Addr) (c1 : Nat) (a2 : Option Addr) (n2 c2 : Nat) (a3 : Int) (w : World) (h00 : 0 ≤ a0) (h01 : a0 ≤ 255) (h2 : n2 ≤ 1048576) (hm : a0 % 4 = 1) :
    Calls Yba.prog 3 #[.int .u8 a0, .slice a1 0 c1, .slice a2 n2 c2, .int .i64 a3] w fun e w' => e = .returned (.bool true) ∧ Below w.heap.size w w' := by
  have HM : Hid (∀ v : Value, v = .int .i64 (wrap64 (a0.tmod 4)) → v = .int .i64 1) := fun v hv => hv.trans (mode_eq h00 h01 hm)
  clear hm h00 h01
  have k1 := make22; have k2 := make23; have k3 := make24; have k4 := make35
  go_enter Yba.func3, Yba.ntmps3
  go_upto_region 3 with fail
  go_cut [9] from 43 to 45 (fun v wx => v = .int .i64 1 ∧ w = wx)
  case first =>
    go_wp2_with fail
    go_meet
    case rel => exact ⟨HM.out _ rfl, rfl⟩
  case rest =>
    obtain ⟨rfl, rfl⟩ := hcut
    clear HM
    go_wp2_with fail
    refine wp_loop_rounds 1 ?_
    rw [rounds_succ]
    go_wp2
    go_ret
    exact ⟨rfl, by repeat (first | exact Below.refl _ _ | refine Below.alloc ?_ (by simp <;> omega) _)⟩

set_option maxHeartbeats 1000000 in
set_option maxRecDepth 100000 in
theorem zero2 (a0 : Int) (a1 : Option Addr) (n1 c1 : Nat) (a2 : Option Addr) (c2 : Nat) (a3 : Int) (w : World) (h00 : 0 ≤ a0) (h01 : a0 ≤ 255) (h1 : n1 ≤ 1048576) (hm : a0 % 4 = 2) :
    Calls Yba.prog 3 #[.int .u8 a0, .slice a1 n1 c1, .slice a2 0 c2, .int .i64 a3] w fun e w' => e = .returned (.bool true) ∧ Below w.heap.size w w' := by
  have HM : Hid (∀ v : Value, v = .int .i64 (wrap64 (a0.tmod 4)) → v = .int .i64 2) := fun v hv => hv.trans (mode_eq h00 h01 hm)
  clear hm h00 h01
  have k1 := make22; have k2 := make23; have k3 := make24; have k4 := make35
  go_enter Yba.func3, Yba.ntmps3
  go_upto_region 3 with fail
  go_cut [9] from 43 to 45 (fun v wx => v = .int .i64 2 ∧ w = wx)
  case first =>
    go_wp2_with fail
    go_meet
    case rel => exact ⟨HM.out _ rfl, rfl⟩
  case rest =>
    obtain ⟨rfl, rfl⟩ := hcut
    clear HM
    go_upto_region 40 with fail
    go_wp2_with (refine wpList_copy_nothing rfl (.tmp 157) (.tmp 158) 23 23 rfl 9 Yba.underlying23 Yba.size9 _ _ _ _ _ _ rfl rfl rfl ?_)
    go_wp2_with fail
    refine wp_loop_rounds 1 ?_
    rw [rounds_succ]
    go_wp2
    go_ret
    exact ⟨rfl, by repeat (first | exact Below.refl _ _ | refine Below.alloc ?_ (by simp <;> omega) _)⟩

set_option maxHeartbeats 1000000 in
set_option maxRecDepth 100000 in
theorem zero3 (a0 : Int) (a1 : Option Addr) (c1 : Nat) (a2 : Option Addr) (n2 c2 : Nat) (a3 : Int) (w : World) (h00 : 0 ≤ a0) (h01 : a0 ≤ 255) (h2 : n2 ≤ 1048576) (hm : a0 % 4 = 3) :
    Calls Yba.prog 3 #[.int .u8 a0, .slice a1 0 c1, .slice a2 n2 c2, .int .i64 a3] w fun e w' => e = .returned (.bool true) ∧ Below w.heap.size w w' := by
  have HM : Hid (∀ v : Value, v = .int .i64 (wrap64 (a0.tmod 4)) → v = .int .i64 3) := fun v hv => hv.trans (mode_eq h00 h01 hm)
  clear hm h00 h01
  have k1 := make22; have k2 := make23; have k3 := make24; have k4 := make35
  go_enter Yba.func3, Yba.ntmps3
  go_upto_region 3 with fail
  go_cut [9] from 43 to 45 (fun v wx => v = .int .i64 3 ∧ w = wx)
  case first =>
    go_wp2_with fail
    go_meet
    case rel => exact ⟨HM.out _ rfl, rfl⟩
  case rest =>
    obtain ⟨rfl, rfl⟩ := hcut
    clear HM
    go_wp2_with fail
    refine wp_loop_rounds 1 ?_
    rw [rounds_succ]
    go_wp2
    go_ret
    exact ⟨rfl, by repeat (first | exact Below.refl _ _ | refine Below.alloc ?_ (by simp <;> omega) _)⟩

end Go.Proofs.Ybulkefxi
