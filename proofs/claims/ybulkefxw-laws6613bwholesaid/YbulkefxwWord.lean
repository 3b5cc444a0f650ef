/-
  wordOf (function 5) by its contract; the Evaluator that LawS6613AWhole builds, its cells behind a name.
-/
import Derived.Test.YbulkefxwRows
import Derived.WalkKit
import Derived.ProofKit
import Derived.WalkSpells
import Derived.WalkLawsBesides
import Derived.Lib.SliceRun
import Derived.Laws.Tables
import Derived.Below
namespace Go.Proofs.Ybulkefxw
open Go.RowKit Go.Lib

/-- The token is in range: its word, and no error. -/
theorem wordOf_in (ge gt n c j : Nat) (p : Option Addr) (w : World) (hj : j < n) (hn : n ≤ 1048576) (he : w.cell? ⟨ge, 444, none⟩ = some (.slice (some ⟨gt, 0, none⟩) n c)) (hc : w.cell? ⟨gt, j, none⟩ = some (.pointer p)) :
    Calls Yba.prog 5 #[.pointer (some ⟨ge, 0, none⟩), .int .i64 (4294967296 + j)] w fun e w' => e = .returned (.tuple #[.pointer p, .nilIface]) ∧ w' = w := by
  go_enter Yba.func5, Yba.ntmps5
  go_wp2
  go_ret2
  exact ⟨rfl, rfl⟩

/-- What wordOf lays where it refuses. -/
def errO : Obj := .cells #[.int .i64 (-9), .string ⟨#[]⟩, .string ⟨#[]⟩, .string ⟨#[]⟩, .int .i64 0] 61

theorem wordOf_neg (ge gt n c : Nat) (q : Int) (w : World) (h : wrap64 (q - 4294967296) < 0) (_he : w.cell? ⟨ge, 444, none⟩ = some (.slice (some ⟨gt, 0, none⟩) n c)) :
    Calls Yba.prog 5 #[.pointer (some ⟨ge, 0, none⟩), .int .i64 q] w fun e w' => e = .returned (.tuple #[.pointer none, .iface 57 (.pointer (some ⟨w.heap.size, 0, none⟩))]) ∧ w' = w.alloc errO := by
  go_enter Yba.func5, Yba.ntmps5
  go_wp2
  go_ret2
  exact ⟨rfl, rfl⟩

theorem wordOf_ge (ge gt n c : Nat) (q : Int) (w : World) (h0 : 0 ≤ wrap64 (q - 4294967296)) (h1 : (n : Int) ≤ wrap64 (q - 4294967296)) (he : w.cell? ⟨ge, 444, none⟩ = some (.slice (some ⟨gt, 0, none⟩) n c)) :
    Calls Yba.prog 5 #[.pointer (some ⟨ge, 0, none⟩), .int .i64 q] w fun e w' => e = .returned (.tuple #[.pointer none, .iface 57 (.pointer (some ⟨w.heap.size, 0, none⟩))]) ∧ w' = w.alloc errO := by
  go_enter Yba.func5, Yba.ntmps5
  go_wp2
  go_ret2
  exact ⟨rfl, rfl⟩

/-- The token is out of range: no word, an error of the code InvalidMemoryAddress. -/
theorem wordOf_out (ge gt n c : Nat) (q : Int) (w : World) (hn : n ≤ 1048576) (h0 : -9223372036854775808 ≤ q) (h1 : q ≤ 9223372036854775807) (hq : q < 4294967296 ∨ 4294967296 + n ≤ q) (he : w.cell? ⟨ge, 444, none⟩ = some (.slice (some ⟨gt, 0, none⟩) n c)) :
    Calls Yba.prog 5 #[.pointer (some ⟨ge, 0, none⟩), .int .i64 q] w fun e w' => e = .returned (.tuple #[.pointer none, .iface 57 (.pointer (some ⟨w.heap.size, 0, none⟩))]) ∧ w' = w.alloc errO := by
  by_cases h : wrap64 (q - 4294967296) < 0
  · exact wordOf_neg ge gt n c q w h he
  · refine wordOf_ge ge gt n c q w (by omega) ?_ he
    unfold wrap64 at *
    omega

/-- The Evaluator's cells where only 'tokens' is set: 450 cells, tokens the 444th. -/
theorem ev_cells (p : Option Addr) (n c : Nat) : ∃ cells : Array Value, Yba.prog.built 52 [(36, .slice p n c)] = some cells ∧ cells.size = 450 ∧ cells[444]? = some (.slice p n c) := by
  have h : (Yba.prog.built 52 [(36, .slice p n c)]).isSome = true := by kernel_rfl
  have h1 : (Yba.prog.built 52 [(36, .slice p n c)]).map (·.size) = some 450 := by kernel_rfl
  have h2 : (Yba.prog.built 52 [(36, .slice p n c)]).map (·[444]?) = some (some (.slice p n c)) := by kernel_rfl
  obtain ⟨cells, hc⟩ := Option.isSome_iff_exists.1 h
  rw [hc] at h1 h2
  exact ⟨cells, hc, by simpa using h1, by simpa using h2⟩

end Go.Proofs.Ybulkefxw
