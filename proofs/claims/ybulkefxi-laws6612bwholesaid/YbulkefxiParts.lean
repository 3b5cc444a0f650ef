/-
  What the walks of LawS6612BWhole carry: a row that the call fills ('Row'), and the copy that it has made ('Cp').
-/
import Derived.Test.YbulkefxiCallees
import Derived.WalkSmall
import Derived.Laws.OwnMore
namespace Go.Proofs.Ybulkefxi
open Go.RowKit Go.Lib

/-- A row of n cells at block g that may be written; its first k cells are F 0 .. F (k-1). -/
structure Row (wr : World) (g n k : Nat) (F : Nat → Value) : Prop where
  done : ∀ i, i < k → wr.cell? ⟨g, i, none⟩ = some (F i)
  free : ∀ i, i < n → wr.frozen? ⟨g, i, none⟩ = false
  old : ∀ i, i < n → ∃ v, wr.cell? ⟨g, i, none⟩ = some v

theorem Row.made {wr : World} {base e g n cap : Nat} {xs : List Value} (h : wr.ownsRow base e 1 (.slice (some ⟨g, 0, none⟩) n cap) n xs) (F : Nat → Value) : Row wr g n 0 F where
  done i hi := by omega
  free i _ := h.frozenAt i
  old i hi := by
    have hl : xs.length = n := by have := h.1; omega
    rw [h.cellAt i (by omega), List.getElem?_eq_getElem (by omega)]
    exact ⟨_, rfl⟩

theorem Row.same {wr w2 : World} {g n k : Nat} {F : Nat → Value} (h : Row wr g n k F) (hs : w2.heap[g]? = wr.heap[g]?) : Row w2 g n k F where
  done i hi := (World.cell?_of_block hs).trans (h.done i hi)
  free i hi := (World.frozen?_of_block hs).trans (h.free i hi)
  old i hi := by obtain ⟨v, hv⟩ := h.old i hi; exact ⟨v, (World.cell?_of_block hs).trans hv⟩

theorem Row.other {wr : World} {g n k : Nat} {F : Nat → Value} (h : Row wr g n k F) {a : Addr} (hne : g ≠ a.block) (u : Value) : Row (wr.setCell a u) g n k F :=
  h.same (Below.heap_setCell wr a u g hne)

theorem frozen_setCell (w : World) (a p : Addr) (u : Value) : (w.setCell a u).frozen? p = w.frozen? p := by
  simp

theorem Row.store {wr : World} {g n k : Nat} {F : Nat → Value} (h : Row wr g n k F) (hk : k < n) (v : Value) (hv : v = F k) : Row (wr.setCell ⟨g, k, none⟩ v) g n (k + 1) F := by
  obtain ⟨u, hu⟩ := h.old k hk
  subst hv
  refine ⟨fun i hi => ?_, fun i hi => ?_, fun i hi => ?_⟩
  · by_cases e : i = k
    · subst e; exact World.cell?_setCell_same _ _ _ hu
    · rw [World.cell?_setCell_other]
      · exact h.done i (by omega)
      · intro h'; injection h' with _ h2 _; omega
  · rw [frozen_setCell]; exact h.free i hi
  · by_cases e : i = k
    · subst e; exact ⟨_, World.cell?_setCell_same _ _ _ hu⟩
    · obtain ⟨v, hv⟩ := h.old i hi
      refine ⟨v, ?_⟩
      rw [World.cell?_setCell_other]
      · exact hv
      · intro h'; injection h' with _ h2 _; omega

theorem Row.drewN {wr : World} {g n k : Nat} {F : Nat → Value} (h : Row wr g n k F) (m : Nat) : Row (wr.drewN m) g n k F := ⟨h.done, h.free, h.old⟩

/-- The copy c lies at block gc: its two fields tv, bv; its row of n cells at block ga; of what was there before the call nothing has turned. -/
structure Cp (w wr : World) (gc : Nat) (tv bv : Value) (ga n : Nat) (F : Nat → Value) : Prop where
  below : Below w.heap.size w wr
  c0 : wr.cell? ⟨gc, 0, none⟩ = some tv
  c1 : wr.cell? ⟨gc, 1, none⟩ = some bv
  row : ∀ i, i < n → wr.cell? ⟨ga, i, none⟩ = some (F i)

theorem Cp.setCell {w wr : World} {gc ga n : Nat} {tv bv : Value} {F : Nat → Value} (h : Cp w wr gc tv bv ga n F) {a : Addr} (h1 : gc ≠ a.block) (h2 : ga ≠ a.block) (h3 : w.heap.size ≤ a.block) (u : Value) : Cp w (wr.setCell a u) gc tv bv ga n F where
  below := h.below.setCell h3 u
  c0 := (World.cell?_of_block (Below.heap_setCell wr a u gc h1)).trans h.c0
  c1 := (World.cell?_of_block (Below.heap_setCell wr a u gc h1)).trans h.c1
  row i hi := (World.cell?_of_block (Below.heap_setCell wr a u ga h2)).trans (h.row i hi)
theorem Cp.drewN {w wr : World} {gc ga n : Nat} {tv bv : Value} {F : Nat → Value} (h : Cp w wr gc tv bv ga n F) (m : Nat) : Cp w (wr.drewN m) gc tv bv ga n F := ⟨below_drewN h.below m, h.c0, h.c1, h.row⟩
theorem Cp.alloc {w wr : World} {gc ga n : Nat} {tv bv : Value} {F : Nat → Value} (h : Cp w wr gc tv bv ga n F) (o : Obj) : Cp w (wr.alloc o) gc tv bv ga n F :=
  ⟨h.below.alloc h.below.size o, later h.c0 o, later h.c1 o, fun i hi => later (h.row i hi) o⟩
theorem Cp.grown {w wr w2 : World} {gc ga n : Nat} {tv bv : Value} {F : Nat → Value} (h : Cp w wr gc tv bv ga n F) (hg : wr.grownBy w2 none) : Cp w w2 gc tv bv ga n F :=
  ⟨h.below.grown hg h.below.size (by intro k hk; cases hk), hg.cell h.c0 (by simp), hg.cell h.c1 (by simp), fun i hi => hg.cell (h.row i hi) (by simp)⟩

theorem Yba.info2 : (Yba.prog.info? 2).map (fun i => (i.zero, i.size, i.bytes)) = some (some (.int .i64 0), 1, 8) := by kernel_rfl
theorem Yba.info34 : (Yba.prog.info? 34).map (fun i => (i.zero, i.size, i.bytes)) = some (some .nilIface, 1, 16) := by kernel_rfl
theorem Yba.size2 : (Yba.prog.info? 2).map (·.size) = some 1 := by kernel_rfl

theorem Yba.info9 : (Yba.prog.info? 9).map (fun i => (i.zero, i.size, i.bytes)) = some (some (.string ⟨#[]⟩), 1, 16) := by kernel_rfl
theorem Yba.size9 : (Yba.prog.info? 9).map (·.size) = some 1 := by kernel_rfl
theorem Yba.info36 : (Yba.prog.info? 36).map (fun i => (i.zero, i.size, i.bytes)) = some (some (.float .f64 0), 1, 8) := by kernel_rfl

theorem mode_eq {a0 m : Int} (h0 : 0 ≤ a0) (_h1 : a0 ≤ 255) (h : a0 % 4 = m) : Value.int .i64 (wrap64 (a0.tmod 4)) = .int .i64 m := by
  rw [Int.tmod_eq_emod_of_nonneg h0, h]
  have : 0 ≤ m ∧ m < 4 := by omega
  unfold wrap64
  congr 1
  omega

theorem idx_ok (a3 : Int) (n : Nat) (h0 : 0 < n) (hn : n ≤ 1048576) : ∃ j : Nat, j < n ∧ Value.int .i64 (wrap64 ((IntKind.u64.wrap a3).tmod n)) = .int .i64 j := by
  have hx : 0 ≤ IntKind.u64.wrap a3 := by
    simp only [IntKind.wrap_u64]
    omega
  generalize IntKind.u64.wrap a3 = x at *
  rw [Int.tmod_eq_emod_of_nonneg hx]
  have h1 : 0 ≤ x % (n : Int) := Int.emod_nonneg _ (by omega)
  have h2 : x % (n : Int) < n := Int.emod_lt_of_pos _ (by omega)
  refine ⟨(x % (n : Int)).toNat, by omega, ?_⟩
  generalize x % (n : Int) = y at *
  unfold wrap64
  congr 1
  omega

end Go.Proofs.Ybulkefxi
