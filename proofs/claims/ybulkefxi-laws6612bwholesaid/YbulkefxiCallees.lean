/-
  The callees of LawS6612BWhole at this program: math.Float64frombits (function 5), itemsCopy.get (6) with the item methods (28, 35, 43), zzs6612bsame (7), math.Float64bits (8).
-/
import Derived.Test.YbulkefxiRows
import Derived.WalkKit
import Derived.ProofKit
import Derived.WalkSpells
import Derived.WalkLawsBesides
import Derived.Lib.SliceRun
import Derived.Laws.Externs
import Derived.Below
namespace Go.Proofs.Ybulkefxi
open Go.RowKit Go.Lib

theorem frombits (n : Int) (w : World) : (callFunc 5 #[.int .u64 n]).run Yba.prog w = .ok (.value (.float .f64 n.toNat)) w :=
  (run_callFunc_extern (e := Extern.MathFloatBits.float64frombits) Yba.func5 (by kernel_rfl) (by kernel_rfl) (by kernel_rfl) (by kernel_rfl) #[.int .u64 n] w).trans rfl
theorem tobits (b : Nat) (w : World) : (callFunc 8 #[.float .f64 b]).run Yba.prog w = .ok (.value (.int .u64 b)) w :=
  (run_callFunc_extern (e := Extern.MathFloatBits.float64bits) Yba.func8 (by kernel_rfl) (by kernel_rfl) (by kernel_rfl) (by kernel_rfl) #[.float .f64 b] w).trans rfl

theorem later {w : World} {a : Addr} {v : Value} (h : w.cell? a = some v) : ∀ o, (w.alloc o).cell? a = some v := fun o => Lib.cell?_alloc_some o h

/-- (IntArray).item -/
theorem item_int (g n c k : Nat) (x : Int) (w : World) (hk : k < n) (hc : w.cell? ⟨g, k, none⟩ = some (.int .i64 x)) :
    Calls Yba.prog 28 #[.agg #[.slice (some ⟨g, 0, none⟩) n c], .int .i64 k] w fun e w' => e = .returned (.iface 32 (.int .i64 x)) ∧ w' = w.alloc (.cells #[.slice (some ⟨g, 0, none⟩) n c] 27) := by
  have hl := later hc
  go_enter Yba.func28, Yba.ntmps28
  go_wp2
  go_ret
  exact ⟨rfl, rfl⟩

theorem item_float (g n c k : Nat) (x : Nat) (w : World) (hk : k < n) (hc : w.cell? ⟨g, k, none⟩ = some (.float .f64 x)) :
    Calls Yba.prog 35 #[.agg #[.slice (some ⟨g, 0, none⟩) n c], .int .i64 k] w fun e w' => e = .returned (.iface 39 (.float .f64 x)) ∧ w' = w.alloc (.cells #[.slice (some ⟨g, 0, none⟩) n c] 41) := by
  have hl := later hc
  go_enter Yba.func35, Yba.ntmps35
  go_wp2
  go_ret
  exact ⟨rfl, rfl⟩

theorem item_str (g n c k : Nat) (x : ByteArray) (w : World) (hk : k < n) (hc : w.cell? ⟨g, k, none⟩ = some (.string x)) :
    Calls Yba.prog 43 #[.agg #[.slice (some ⟨g, 0, none⟩) n c], .int .i64 k] w fun e w' => e = .returned (.iface 44 (.string x)) ∧ w' = w.alloc (.cells #[.slice (some ⟨g, 0, none⟩) n c] 43) := by
  have hl := later hc
  go_enter Yba.func43, Yba.ntmps43
  go_wp2
  go_ret
  exact ⟨rfl, rfl⟩

/-- Type assertions that the walks meet: the dynamic type is known. -/
theorem as32 (x : Value) (w : World) : (Instr.typeAssert (.iface 32 x) 34 32 true).run Yba.prog w = .ok (.tuple #[x, .bool true]) w := by kernel_rfl
theorem as39 (x : Value) (w : World) : (Instr.typeAssert (.iface 39 x) 34 39 true).run Yba.prog w = .ok (.tuple #[x, .bool true]) w := by kernel_rfl
theorem as44 (x : Value) (w : World) : (Instr.typeAssert (.iface 44 x) 34 44 true).run Yba.prog w = .ok (.tuple #[x, .bool true]) w := by kernel_rfl
theorem as39_32 (x : Value) (w : World) : (Instr.typeAssert (.iface 39 x) 34 32 true).run Yba.prog w = .ok (.tuple #[.int .i64 0, .bool false]) w := by kernel_rfl
theorem as44_32 (x : Value) (w : World) : (Instr.typeAssert (.iface 44 x) 34 32 true).run Yba.prog w = .ok (.tuple #[.int .i64 0, .bool false]) w := by kernel_rfl
theorem as44_39 (x : Value) (w : World) : (Instr.typeAssert (.iface 44 x) 34 39 true).run Yba.prog w = .ok (.tuple #[.float .f64 0, .bool false]) w := by kernel_rfl
theorem as27 (x : Value) (w : World) : (Instr.typeAssert (.iface 27 x) 29 27 true).run Yba.prog w = .ok (.tuple #[x, .bool true]) w := by kernel_rfl
theorem as41 (x : Value) (w : World) : (Instr.typeAssert (.iface 41 x) 29 41 true).run Yba.prog w = .ok (.tuple #[x, .bool true]) w := by kernel_rfl
theorem as43 (x : Value) (w : World) : (Instr.typeAssert (.iface 43 x) 29 43 true).run Yba.prog w = .ok (.tuple #[x, .bool true]) w := by kernel_rfl

set_option maxRecDepth 100000 in
theorem same_int (x : Int) (w : World) : Calls Yba.prog 7 #[.iface 32 (.int .i64 x), .iface 32 (.int .i64 x)] w fun e w' => e = .returned (.bool true) ∧ w' = w := by
  have a1 := as32; have a2 := as39; have a3 := as44; have a4 := as39_32; have a5 := as44_32; have a6 := as44_39
  go_enter Yba.func7, Yba.ntmps7
  go_wp2
  go_ret
  exact ⟨rfl, rfl⟩
set_option maxRecDepth 100000 in
theorem same_float (x : Nat) (w : World) : Calls Yba.prog 7 #[.iface 39 (.float .f64 x), .iface 39 (.float .f64 x)] w fun e w' => e = .returned (.bool true) ∧ w' = w := by
  have hb := tobits
  have a1 := as32; have a2 := as39; have a3 := as44; have a4 := as39_32; have a5 := as44_32; have a6 := as44_39
  go_enter Yba.func7, Yba.ntmps7
  go_wp2
  go_ret
  exact ⟨rfl, rfl⟩
set_option maxRecDepth 100000 in
theorem same_str (x : ByteArray) (w : World) : Calls Yba.prog 7 #[.iface 44 (.string x), .iface 44 (.string x)] w fun e w' => e = .returned (.bool true) ∧ w' = w := by
  have a1 := as32; have a2 := as39; have a3 := as44; have a4 := as39_32; have a5 := as44_32; have a6 := as44_39
  go_enter Yba.func7, Yba.ntmps7
  go_wp2
  go_ret
  exact ⟨rfl, rfl⟩

/-- The method's name, as the program spells it. -/
def itemName : String := String.ofList ("example.com".toList ++ [Char.ofNat 47] ++ "strandwise".toList ++ [Char.ofNat 47] ++ "strandwise.item".toList)
theorem method_int (s : String) (hs : s = itemName) (x : Value) (w : World) : (method 242 27 (.agg #[x]) s).run Yba.prog w = .ok (28, .agg #[x]) w := by
  subst hs; kernel_rfl
theorem method_float (s : String) (hs : s = itemName) (x : Value) (w : World) : (method 242 41 (.agg #[x]) s).run Yba.prog w = .ok (35, .agg #[x]) w := by
  subst hs; kernel_rfl
theorem method_str (s : String) (hs : s = itemName) (x : Value) (w : World) : (method 242 43 (.agg #[x]) s).run Yba.prog w = .ok (43, .agg #[x]) w := by
  subst hs; kernel_rfl

set_option maxRecDepth 100000 in
theorem get_int (gc g n c k : Nat) (x : Int) (w : World) (hk : k < n) (hc0 : w.cell? ⟨gc, 0, none⟩ = some (.iface 27 (.agg #[.slice (some ⟨g, 0, none⟩) n c]))) (hc : w.cell? ⟨g, k, none⟩ = some (.int .i64 x)) :
    Calls Yba.prog 6 #[.pointer (some ⟨gc, 0, none⟩), .int .i64 k] w fun e w' => e = .returned (.iface 32 (.int .i64 x)) ∧ w' = w.alloc (.cells #[.slice (some ⟨g, 0, none⟩) n c] 27) := by
  go_enter Yba.func6, Yba.ntmps6
  go_wp2
  rw [method_int _ (by kernel_rfl)]
  go_wp2_with (go_at_call 28; refine (item_int g n c k x _ hk hc).mono ?_; rintro e w' ⟨rfl, rfl⟩)
  go_ret
  exact ⟨rfl, rfl⟩

set_option maxRecDepth 100000 in
theorem get_float (gc g n c k : Nat) (x : Nat) (w : World) (hk : k < n) (hc0 : w.cell? ⟨gc, 0, none⟩ = some (.iface 41 (.agg #[.slice (some ⟨g, 0, none⟩) n c]))) (hc : w.cell? ⟨g, k, none⟩ = some (.float .f64 x)) :
    Calls Yba.prog 6 #[.pointer (some ⟨gc, 0, none⟩), .int .i64 k] w fun e w' => e = .returned (.iface 39 (.float .f64 x)) ∧ w' = w.alloc (.cells #[.slice (some ⟨g, 0, none⟩) n c] 41) := by
  go_enter Yba.func6, Yba.ntmps6
  go_wp2
  rw [method_float _ (by kernel_rfl)]
  go_wp2_with (go_at_call 35; refine (item_float g n c k x _ hk hc).mono ?_; rintro e w' ⟨rfl, rfl⟩)
  go_ret
  exact ⟨rfl, rfl⟩

set_option maxRecDepth 100000 in
theorem get_str (gc g n c k : Nat) (x : ByteArray) (w : World) (hk : k < n) (hc0 : w.cell? ⟨gc, 0, none⟩ = some (.iface 43 (.agg #[.slice (some ⟨g, 0, none⟩) n c]))) (hc : w.cell? ⟨g, k, none⟩ = some (.string x)) :
    Calls Yba.prog 6 #[.pointer (some ⟨gc, 0, none⟩), .int .i64 k] w fun e w' => e = .returned (.iface 44 (.string x)) ∧ w' = w.alloc (.cells #[.slice (some ⟨g, 0, none⟩) n c] 43) := by
  go_enter Yba.func6, Yba.ntmps6
  go_wp2
  rw [method_str _ (by kernel_rfl)]
  go_wp2_with (go_at_call 43; refine (item_str g n c k x _ hk hc).mono ?_; rintro e w' ⟨rfl, rfl⟩)
  go_ret
  exact ⟨rfl, rfl⟩

set_option maxRecDepth 100000 in
theorem get_boxed (gc g n c k : Nat) (T : Nat) (x : Value) (w : World) (hk : k < n) (hc0 : w.cell? ⟨gc, 0, none⟩ = some .nilIface) (hc1 : w.cell? ⟨gc, 1, none⟩ = some (.slice (some ⟨g, 0, none⟩) n c)) (hc : w.cell? ⟨g, k, none⟩ = some (.iface T x)) :
    Calls Yba.prog 6 #[.pointer (some ⟨gc, 0, none⟩), .int .i64 k] w fun e w' => e = .returned (.iface T x) ∧ w' = w := by
  go_enter Yba.func6, Yba.ntmps6
  go_wp2
  go_ret
  exact ⟨rfl, rfl⟩

end Go.Proofs.Ybulkefxi
