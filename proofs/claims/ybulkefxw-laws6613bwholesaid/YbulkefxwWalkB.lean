/-
  The walk of LawS6613BWhole.
-/
import Derived.Test.YbulkefxwStop
import Derived.Test.YbulkefxwSame
import Derived.Test.YbulkefxwParts
import Derived.Deep.CutRange
import Derived.Deep.CutBlock
import Derived.Laws.CopyOwn
import Derived.DeepKeys
namespace Go.Proofs.Ybulkefxw
open Go.RowKit Go.Lib

theorem Yba.info65 : (Yba.prog.info? 65).map (fun i => (i.zero, i.size, i.bytes)) = some (some (.agg #[.int .u8 0, .int .i64 0]), 2, 16) := by kernel_rfl
theorem Yba.info3 : (Yba.prog.info? 3).map (fun i => (i.zero, i.size, i.bytes)) = some (some (.int .i64 0), 1, 8) := by kernel_rfl
theorem Yba.info2 : (Yba.prog.info? 2).map (fun i => (i.zero, i.size, i.bytes)) = some (some (.int .i64 0), 1, 8) := by kernel_rfl
theorem Yba.size3 : (Yba.prog.info? 3).map (·.size) = some 1 := by kernel_rfl
theorem Yba.size2 : (Yba.prog.info? 2).map (·.size) = some 1 := by kernel_rfl

/-- The control-flow stack as it is filled: k of its n pairs. -/
structure Ctl (wr : World) (g n k : Nat) (K A : Nat → Int) : Prop where
  kind : ∀ i, i < k → wr.cell? ⟨g, i * 2, none⟩ = some (.int .u8 (K i))
  at_ : ∀ i, i < k → wr.cell? ⟨g, i * 2 + 1, none⟩ = some (.int .i64 (A i))
  free : ∀ o, o < n * 2 → wr.frozen? ⟨g, o, none⟩ = false
  there : ∀ o, o < n * 2 → ∃ v, wr.cell? ⟨g, o, none⟩ = some v

theorem Ctl.made {wr : World} {base e g n cap : Nat} {xs : List Value} (h : wr.ownsRow base e 2 (.slice (some ⟨g, 0, none⟩) n cap) n xs) (K A : Nat → Int) : Ctl wr g n 0 K A where
  kind i hi := by omega
  at_ i hi := by omega
  free i _ := h.frozenAt i
  there i hi := by
    have hl : xs.length = n * 2 := h.1
    rw [h.cellAt i hi, List.getElem?_eq_getElem (by omega)]
    exact ⟨_, rfl⟩

theorem Ctl.step {wr : World} {g n k : Nat} {K A : Nat → Int} (h : Ctl wr g n k K A) (hk : k < n) (x : Int) (hx : x = A k) :
    Ctl ((wr.setCell ⟨g, k * 2, none⟩ (.int .u8 (K k))).setCell ⟨g, k * 2 + 1, none⟩ (.int .i64 x)) g n (k + 1) K A := by
  subst hx
  obtain ⟨u0, hu0⟩ := h.there (k * 2) (by omega)
  obtain ⟨u1, hu1⟩ := h.there (k * 2 + 1) (by omega)
  have o1 : ∀ (v : World) (a b : Nat) (y : Value), a ≠ b → (v.setCell ⟨g, a, none⟩ y).cell? ⟨g, b, none⟩ = v.cell? ⟨g, b, none⟩ := fun v a b y hab => World.cell?_setCell_other _ _ _ _ (by intro h'; injection h' with _ h2 _; omega)
  have hu1' : (wr.setCell ⟨g, k * 2, none⟩ (.int .u8 (K k))).cell? ⟨g, k * 2 + 1, none⟩ = some u1 := (o1 _ _ _ _ (by omega)).trans hu1
  refine ⟨fun i hi => ?_, fun i hi => ?_, fun o ho => ?_, fun o ho => ?_⟩
  · rw [o1 _ _ _ _ (by omega)]
    by_cases e : i = k
    · subst e; exact World.cell?_setCell_same _ _ _ hu0
    · rw [o1 _ _ _ _ (by omega)]; exact h.kind i (by omega)
  · by_cases e : i = k
    · subst e; exact World.cell?_setCell_same _ _ _ hu1'
    · rw [o1 _ _ _ _ (by omega), o1 _ _ _ _ (by omega)]; exact h.at_ i (by omega)
  · rw [World.frozen?_setCell, World.frozen?_setCell]; exact h.free o ho
  · by_cases e1 : o = k * 2 + 1
    · subst e1; exact ⟨_, World.cell?_setCell_same _ _ _ hu1'⟩
    · rw [o1 _ _ _ _ (by omega)]
      by_cases e0 : o = k * 2
      · subst e0; exact ⟨_, World.cell?_setCell_same _ _ _ hu0⟩
      · rw [o1 _ _ _ _ (by omega)]; exact h.there o ho

/-- The control-flow stack as it lies: it has no pair, or they lie at the head of a block. -/
def CtlL (wr : World) (p : Option Addr) (n : Nat) (K A : Nat → Int) : Prop := n = 0 ∨ ∃ g, p = some ⟨g, 0, none⟩ ∧ g < wr.heap.size ∧ Ctl wr g n n K A
theorem CtlL.below {w w' : World} {p : Option Addr} {n : Nat} {K A : Nat → Int} (h : CtlL w p n K A) (hb : Below w.heap.size w w') : CtlL w' p n K A := by
  rcases h with h | ⟨g, hp, hl, hc⟩
  · exact .inl h
  · have hs := hb.block g hl
    refine .inr ⟨g, hp, Nat.lt_of_lt_of_le hl hb.size, fun i hi => (World.cell?_of_block hs).trans (hc.kind i hi), fun i hi => (World.cell?_of_block hs).trans (hc.at_ i hi), fun o ho => (World.frozen?_of_block hs).trans (hc.free o ho), fun o ho => ?_⟩
    obtain ⟨v, hv⟩ := hc.there o ho
    exact ⟨v, (World.cell?_of_block hs).trans hv⟩

/-- The Evaluator's cells as the law builds it. -/
structure Ev9 (cells : Array Value) (p q s : Option Addr) (n m l : Nat) (b0 b1 b2 b3 b4 b5 b6 b7 kept defined : Int) : Prop where
  size : cells.size = 450
  e0 : cells[0]? = some (.slice s l l)
  e5 : cells[5]? = some (.map none)
  e6 : cells[6]? = some (.pointer none)
  e8 : cells[8]? = some (.int .i64 kept)
  e17 : cells[17]? = some (.int .u8 b0)
  e18 : cells[18]? = some (.int .u8 b1)
  e19 : cells[19]? = some (.int .u8 b2)
  e20 : cells[20]? = some (.int .u8 b3)
  e21 : cells[21]? = some (.int .u8 b4)
  e22 : cells[22]? = some (.int .u8 b5)
  e23 : cells[23]? = some (.int .u8 b6)
  e24 : cells[24]? = some (.int .u8 b7)
  e25 : cells[25]? = some (.slice p n n)
  e26 : cells[26]? = some (.slice q m m)
  e27 : cells[27]? = some (.nilIface)
  e28 : cells[28]? = some (.pointer none)
  e446 : cells[446]? = some (.int .i64 defined)

theorem ev9 (d p q s : Option Addr) (top : Bool) (n m l : Nat) (s0 s1 s2 s3 s4 s5 s6 s7 b0 b1 b2 b3 b4 b5 b6 b7 kept defined : Int) :
    ∃ cells : Array Value, Yba.prog.built 52 [(7, .pointer d), (41, .bool top), (11, .slice p n n), (12, .slice q m m), (9, .agg #[.int .u8 s0, .int .u8 s1, .int .u8 s2, .int .u8 s3, .int .u8 s4, .int .u8 s5, .int .u8 s6, .int .u8 s7]), (10, .agg #[.int .u8 b0, .int .u8 b1, .int .u8 b2, .int .u8 b3, .int .u8 b4, .int .u8 b5, .int .u8 b6, .int .u8 b7]), (0, .slice s l l), (8, .int .i64 kept), (38, .int .i64 defined)] = some cells ∧ Ev9 cells p q s n m l b0 b1 b2 b3 b4 b5 b6 b7 kept defined := by
  have h : (Yba.prog.built 52 [(7, .pointer d), (41, .bool top), (11, .slice p n n), (12, .slice q m m), (9, .agg #[.int .u8 s0, .int .u8 s1, .int .u8 s2, .int .u8 s3, .int .u8 s4, .int .u8 s5, .int .u8 s6, .int .u8 s7]), (10, .agg #[.int .u8 b0, .int .u8 b1, .int .u8 b2, .int .u8 b3, .int .u8 b4, .int .u8 b5, .int .u8 b6, .int .u8 b7]), (0, .slice s l l), (8, .int .i64 kept), (38, .int .i64 defined)]).isSome = true := by kernel_rfl
  have h1 : (Yba.prog.built 52 [(7, .pointer d), (41, .bool top), (11, .slice p n n), (12, .slice q m m), (9, .agg #[.int .u8 s0, .int .u8 s1, .int .u8 s2, .int .u8 s3, .int .u8 s4, .int .u8 s5, .int .u8 s6, .int .u8 s7]), (10, .agg #[.int .u8 b0, .int .u8 b1, .int .u8 b2, .int .u8 b3, .int .u8 b4, .int .u8 b5, .int .u8 b6, .int .u8 b7]), (0, .slice s l l), (8, .int .i64 kept), (38, .int .i64 defined)]).map (·.size) = some 450 := by kernel_rfl
  have h1000 : (Yba.prog.built 52 [(7, .pointer d), (41, .bool top), (11, .slice p n n), (12, .slice q m m), (9, .agg #[.int .u8 s0, .int .u8 s1, .int .u8 s2, .int .u8 s3, .int .u8 s4, .int .u8 s5, .int .u8 s6, .int .u8 s7]), (10, .agg #[.int .u8 b0, .int .u8 b1, .int .u8 b2, .int .u8 b3, .int .u8 b4, .int .u8 b5, .int .u8 b6, .int .u8 b7]), (0, .slice s l l), (8, .int .i64 kept), (38, .int .i64 defined)]).map (·[0]?) = some (some (.slice s l l)) := by kernel_rfl
  have h1005 : (Yba.prog.built 52 [(7, .pointer d), (41, .bool top), (11, .slice p n n), (12, .slice q m m), (9, .agg #[.int .u8 s0, .int .u8 s1, .int .u8 s2, .int .u8 s3, .int .u8 s4, .int .u8 s5, .int .u8 s6, .int .u8 s7]), (10, .agg #[.int .u8 b0, .int .u8 b1, .int .u8 b2, .int .u8 b3, .int .u8 b4, .int .u8 b5, .int .u8 b6, .int .u8 b7]), (0, .slice s l l), (8, .int .i64 kept), (38, .int .i64 defined)]).map (·[5]?) = some (some (.map none)) := by kernel_rfl
  have h1006 : (Yba.prog.built 52 [(7, .pointer d), (41, .bool top), (11, .slice p n n), (12, .slice q m m), (9, .agg #[.int .u8 s0, .int .u8 s1, .int .u8 s2, .int .u8 s3, .int .u8 s4, .int .u8 s5, .int .u8 s6, .int .u8 s7]), (10, .agg #[.int .u8 b0, .int .u8 b1, .int .u8 b2, .int .u8 b3, .int .u8 b4, .int .u8 b5, .int .u8 b6, .int .u8 b7]), (0, .slice s l l), (8, .int .i64 kept), (38, .int .i64 defined)]).map (·[6]?) = some (some (.pointer none)) := by kernel_rfl
  have h1008 : (Yba.prog.built 52 [(7, .pointer d), (41, .bool top), (11, .slice p n n), (12, .slice q m m), (9, .agg #[.int .u8 s0, .int .u8 s1, .int .u8 s2, .int .u8 s3, .int .u8 s4, .int .u8 s5, .int .u8 s6, .int .u8 s7]), (10, .agg #[.int .u8 b0, .int .u8 b1, .int .u8 b2, .int .u8 b3, .int .u8 b4, .int .u8 b5, .int .u8 b6, .int .u8 b7]), (0, .slice s l l), (8, .int .i64 kept), (38, .int .i64 defined)]).map (·[8]?) = some (some (.int .i64 kept)) := by kernel_rfl
  have h1017 : (Yba.prog.built 52 [(7, .pointer d), (41, .bool top), (11, .slice p n n), (12, .slice q m m), (9, .agg #[.int .u8 s0, .int .u8 s1, .int .u8 s2, .int .u8 s3, .int .u8 s4, .int .u8 s5, .int .u8 s6, .int .u8 s7]), (10, .agg #[.int .u8 b0, .int .u8 b1, .int .u8 b2, .int .u8 b3, .int .u8 b4, .int .u8 b5, .int .u8 b6, .int .u8 b7]), (0, .slice s l l), (8, .int .i64 kept), (38, .int .i64 defined)]).map (·[17]?) = some (some (.int .u8 b0)) := by kernel_rfl
  have h1018 : (Yba.prog.built 52 [(7, .pointer d), (41, .bool top), (11, .slice p n n), (12, .slice q m m), (9, .agg #[.int .u8 s0, .int .u8 s1, .int .u8 s2, .int .u8 s3, .int .u8 s4, .int .u8 s5, .int .u8 s6, .int .u8 s7]), (10, .agg #[.int .u8 b0, .int .u8 b1, .int .u8 b2, .int .u8 b3, .int .u8 b4, .int .u8 b5, .int .u8 b6, .int .u8 b7]), (0, .slice s l l), (8, .int .i64 kept), (38, .int .i64 defined)]).map (·[18]?) = some (some (.int .u8 b1)) := by kernel_rfl
  have h1019 : (Yba.prog.built 52 [(7, .pointer d), (41, .bool top), (11, .slice p n n), (12, .slice q m m), (9, .agg #[.int .u8 s0, .int .u8 s1, .int .u8 s2, .int .u8 s3, .int .u8 s4, .int .u8 s5, .int .u8 s6, .int .u8 s7]), (10, .agg #[.int .u8 b0, .int .u8 b1, .int .u8 b2, .int .u8 b3, .int .u8 b4, .int .u8 b5, .int .u8 b6, .int .u8 b7]), (0, .slice s l l), (8, .int .i64 kept), (38, .int .i64 defined)]).map (·[19]?) = some (some (.int .u8 b2)) := by kernel_rfl
  have h1020 : (Yba.prog.built 52 [(7, .pointer d), (41, .bool top), (11, .slice p n n), (12, .slice q m m), (9, .agg #[.int .u8 s0, .int .u8 s1, .int .u8 s2, .int .u8 s3, .int .u8 s4, .int .u8 s5, .int .u8 s6, .int .u8 s7]), (10, .agg #[.int .u8 b0, .int .u8 b1, .int .u8 b2, .int .u8 b3, .int .u8 b4, .int .u8 b5, .int .u8 b6, .int .u8 b7]), (0, .slice s l l), (8, .int .i64 kept), (38, .int .i64 defined)]).map (·[20]?) = some (some (.int .u8 b3)) := by kernel_rfl
  have h1021 : (Yba.prog.built 52 [(7, .pointer d), (41, .bool top), (11, .slice p n n), (12, .slice q m m), (9, .agg #[.int .u8 s0, .int .u8 s1, .int .u8 s2, .int .u8 s3, .int .u8 s4, .int .u8 s5, .int .u8 s6, .int .u8 s7]), (10, .agg #[.int .u8 b0, .int .u8 b1, .int .u8 b2, .int .u8 b3, .int .u8 b4, .int .u8 b5, .int .u8 b6, .int .u8 b7]), (0, .slice s l l), (8, .int .i64 kept), (38, .int .i64 defined)]).map (·[21]?) = some (some (.int .u8 b4)) := by kernel_rfl
  have h1022 : (Yba.prog.built 52 [(7, .pointer d), (41, .bool top), (11, .slice p n n), (12, .slice q m m), (9, .agg #[.int .u8 s0, .int .u8 s1, .int .u8 s2, .int .u8 s3, .int .u8 s4, .int .u8 s5, .int .u8 s6, .int .u8 s7]), (10, .agg #[.int .u8 b0, .int .u8 b1, .int .u8 b2, .int .u8 b3, .int .u8 b4, .int .u8 b5, .int .u8 b6, .int .u8 b7]), (0, .slice s l l), (8, .int .i64 kept), (38, .int .i64 defined)]).map (·[22]?) = some (some (.int .u8 b5)) := by kernel_rfl
  have h1023 : (Yba.prog.built 52 [(7, .pointer d), (41, .bool top), (11, .slice p n n), (12, .slice q m m), (9, .agg #[.int .u8 s0, .int .u8 s1, .int .u8 s2, .int .u8 s3, .int .u8 s4, .int .u8 s5, .int .u8 s6, .int .u8 s7]), (10, .agg #[.int .u8 b0, .int .u8 b1, .int .u8 b2, .int .u8 b3, .int .u8 b4, .int .u8 b5, .int .u8 b6, .int .u8 b7]), (0, .slice s l l), (8, .int .i64 kept), (38, .int .i64 defined)]).map (·[23]?) = some (some (.int .u8 b6)) := by kernel_rfl
  have h1024 : (Yba.prog.built 52 [(7, .pointer d), (41, .bool top), (11, .slice p n n), (12, .slice q m m), (9, .agg #[.int .u8 s0, .int .u8 s1, .int .u8 s2, .int .u8 s3, .int .u8 s4, .int .u8 s5, .int .u8 s6, .int .u8 s7]), (10, .agg #[.int .u8 b0, .int .u8 b1, .int .u8 b2, .int .u8 b3, .int .u8 b4, .int .u8 b5, .int .u8 b6, .int .u8 b7]), (0, .slice s l l), (8, .int .i64 kept), (38, .int .i64 defined)]).map (·[24]?) = some (some (.int .u8 b7)) := by kernel_rfl
  have h1025 : (Yba.prog.built 52 [(7, .pointer d), (41, .bool top), (11, .slice p n n), (12, .slice q m m), (9, .agg #[.int .u8 s0, .int .u8 s1, .int .u8 s2, .int .u8 s3, .int .u8 s4, .int .u8 s5, .int .u8 s6, .int .u8 s7]), (10, .agg #[.int .u8 b0, .int .u8 b1, .int .u8 b2, .int .u8 b3, .int .u8 b4, .int .u8 b5, .int .u8 b6, .int .u8 b7]), (0, .slice s l l), (8, .int .i64 kept), (38, .int .i64 defined)]).map (·[25]?) = some (some (.slice p n n)) := by kernel_rfl
  have h1026 : (Yba.prog.built 52 [(7, .pointer d), (41, .bool top), (11, .slice p n n), (12, .slice q m m), (9, .agg #[.int .u8 s0, .int .u8 s1, .int .u8 s2, .int .u8 s3, .int .u8 s4, .int .u8 s5, .int .u8 s6, .int .u8 s7]), (10, .agg #[.int .u8 b0, .int .u8 b1, .int .u8 b2, .int .u8 b3, .int .u8 b4, .int .u8 b5, .int .u8 b6, .int .u8 b7]), (0, .slice s l l), (8, .int .i64 kept), (38, .int .i64 defined)]).map (·[26]?) = some (some (.slice q m m)) := by kernel_rfl
  have h1027 : (Yba.prog.built 52 [(7, .pointer d), (41, .bool top), (11, .slice p n n), (12, .slice q m m), (9, .agg #[.int .u8 s0, .int .u8 s1, .int .u8 s2, .int .u8 s3, .int .u8 s4, .int .u8 s5, .int .u8 s6, .int .u8 s7]), (10, .agg #[.int .u8 b0, .int .u8 b1, .int .u8 b2, .int .u8 b3, .int .u8 b4, .int .u8 b5, .int .u8 b6, .int .u8 b7]), (0, .slice s l l), (8, .int .i64 kept), (38, .int .i64 defined)]).map (·[27]?) = some (some (.nilIface)) := by kernel_rfl
  have h1028 : (Yba.prog.built 52 [(7, .pointer d), (41, .bool top), (11, .slice p n n), (12, .slice q m m), (9, .agg #[.int .u8 s0, .int .u8 s1, .int .u8 s2, .int .u8 s3, .int .u8 s4, .int .u8 s5, .int .u8 s6, .int .u8 s7]), (10, .agg #[.int .u8 b0, .int .u8 b1, .int .u8 b2, .int .u8 b3, .int .u8 b4, .int .u8 b5, .int .u8 b6, .int .u8 b7]), (0, .slice s l l), (8, .int .i64 kept), (38, .int .i64 defined)]).map (·[28]?) = some (some (.pointer none)) := by kernel_rfl
  have h1446 : (Yba.prog.built 52 [(7, .pointer d), (41, .bool top), (11, .slice p n n), (12, .slice q m m), (9, .agg #[.int .u8 s0, .int .u8 s1, .int .u8 s2, .int .u8 s3, .int .u8 s4, .int .u8 s5, .int .u8 s6, .int .u8 s7]), (10, .agg #[.int .u8 b0, .int .u8 b1, .int .u8 b2, .int .u8 b3, .int .u8 b4, .int .u8 b5, .int .u8 b6, .int .u8 b7]), (0, .slice s l l), (8, .int .i64 kept), (38, .int .i64 defined)]).map (·[446]?) = some (some (.int .i64 defined)) := by kernel_rfl
  obtain ⟨cells, hc⟩ := Option.isSome_iff_exists.1 h
  rw [hc] at h1 h1000 h1005 h1006 h1008 h1017 h1018 h1019 h1020 h1021 h1022 h1023 h1024 h1025 h1026 h1027 h1028 h1446
  exact ⟨cells, hc, Option.some.inj h1, Option.some.inj h1000, Option.some.inj h1005, Option.some.inj h1006, Option.some.inj h1008, Option.some.inj h1017, Option.some.inj h1018, Option.some.inj h1019, Option.some.inj h1020, Option.some.inj h1021, Option.some.inj h1022, Option.some.inj h1023, Option.some.inj h1024, Option.some.inj h1025, Option.some.inj h1026, Option.some.inj h1027, Option.some.inj h1028, Option.some.inj h1446⟩

/-- Behind a structure, so that nothing lays the building open. -/
structure Built (parts : List (Nat × Value)) (cells : Array Value) : Prop where
  eq : Yba.prog.built 52 parts = some cells

/-- 'build' of the Evaluator with nine parts, its cells behind a name. -/
theorem wpList_build9 {ops : Array Oper} {rest : List Oper} {o : Oper} {a : Act} {w : World} {Q : Exit → Act → World → Prop} (hg : o.guard = none) (x0 x1 x2 x3 x4 x5 x6 x7 x8 : Operand)
    (ho : o.op = .build 52 #[(7, x0), (41, x1), (11, x2), (12, x3), (9, x4), (10, x5), (0, x6), (8, x7), (38, x8)]) (v0 v1 v2 v3 v4 v5 v6 v7 v8 : Value) (h0 : a.eval x0 = v0) (h1 : a.eval x1 = v1) (h2 : a.eval x2 = v2) (h3 : a.eval x3 = v3) (h4 : a.eval x4 = v4) (h5 : a.eval x5 = v5) (h6 : a.eval x6 = v6) (h7 : a.eval x7 = v7) (h8 : a.eval x8 = v8)
    (cells : Array Value) (hc : Built [(7, v0), (41, v1), (11, v2), (12, v3), (9, v4), (10, v5), (0, v6), (8, v7), (38, v8)] cells) (h : wpList Yba.prog ops Q rest (a.put o.dst (.agg cells)) w) : wpList Yba.prog ops Q (o :: rest) a w :=
  wpList_build_as hg 52 _ ho cells (by
    have e : (#[(7, x0), (41, x1), (11, x2), (12, x3), (9, x4), (10, x5), (0, x6), (8, x7), (38, x8)].map fun (y : Nat × Operand) => (y.1, a.eval y.2)).toList = [(7, v0), (41, v1), (11, v2), (12, v3), (9, v4), (10, v5), (0, v6), (8, v7), (38, v8)] := by
      simp only [List.map_toArray, List.map_cons, List.map_nil, h0, h1, h2, h3, h4, h5, h6, h7, h8]
    exact (congrArg (Yba.prog.built 52) e).trans hc.eq) h

theorem open_new (w : World) (cells : Array Value) (h : cells.size = 450) : Open (w.alloc (.cells cells 52)) w.heap.size where
  lt := by simp
  free o := by simp only [World.frozen?, heap_alloc_new]; simp
  there o ho := by
    simp only [World.cell?, heap_alloc_new]
    exact ⟨cells[o], Array.getElem?_eq_getElem (by omega)⟩
theorem cell_new (w : World) (cells : Array Value) (o : Nat) : (w.alloc (.cells cells 52)).cell? ⟨w.heap.size, o, none⟩ = cells[o]? := by
  simp only [World.cell?, heap_alloc_new]
  rfl

theorem Yba.cells35 : Yba.prog.cellsOf 35 = 8 := by kernel_rfl
theorem Yba.cells5 : Yba.prog.cellsOf 5 = 1 := by kernel_rfl
/-- '[8]byte' held against itself. -/
theorem eq35 (x0 x1 x2 x3 x4 x5 x6 x7 : Int) (hx : ∀ x ∈ [x0, x1, x2, x3, x4, x5, x6, x7], (Lit.int .u8 x).wf = true) (w : World) : (Op.equalIn 10000 35 (.agg #[.int .u8 x0, .int .u8 x1, .int .u8 x2, .int .u8 x3, .int .u8 x4, .int .u8 x5, .int .u8 x6, .int .u8 x7]) (.agg #[.int .u8 x0, .int .u8 x1, .int .u8 x2, .int .u8 x3, .int .u8 x4, .int .u8 x5, .int .u8 x6, .int .u8 x7])).run Yba.prog w = .ok true w := by
  have w0 := hx x0 (by simp)
  have w1 := hx x1 (by simp)
  have w2 := hx x2 (by simp)
  have w3 := hx x3 (by simp)
  have w4 := hx x4 (by simp)
  have w5 := hx x5 (by simp)
  have w6 := hx x6 (by simp)
  have w7 := hx x7 (by simp)
  have hl : Yba.prog.keyLits 2 35 (Value.agg #[.int .u8 x0, .int .u8 x1, .int .u8 x2, .int .u8 x3, .int .u8 x4, .int .u8 x5, .int .u8 x6, .int .u8 x7]).cells.toList = some [.int .u8 x0, .int .u8 x1, .int .u8 x2, .int .u8 x3, .int .u8 x4, .int .u8 x5, .int .u8 x6, .int .u8 x7] := by
    simp [Program.keyLits, Yba.underlying35, Yba.underlying5, Yba.cells35, Yba.cells5, Value.cells, List.range, List.range.loop, w0, w1, w2, w3, w4, w5, w6, w7]
  have hf : (Value.agg #[.int .u8 x0, .int .u8 x1, .int .u8 x2, .int .u8 x3, .int .u8 x4, .int .u8 x5, .int .u8 x6, .int .u8 x7]).formed Yba.prog 35 = true := by kernel_rfl
  obtain ⟨r, h1, h2⟩ := run_equalIn_deep (P := Yba.prog) 9998 2 35 (by kernel_rfl) w 2 2 _ _ _ _ hf hf hl hl
  rw [h2.2 rfl] at h1
  exact h1

theorem opt_cases {α : Type} (a : Option α) : a = none ∨ ∃ x, a = some x := by cases a <;> simp

/-- Where the ats are: none given: the index; else the ats in turn. -/
def atOf (n5 : Nat) (T : Nat → Int) (i : Nat) : Int := if 0 < n5 then T (i % n5) else i

set_option maxHeartbeats 4000000 in
set_option maxRecDepth 100000 in
theorem walkB (a0 a1 : Bool) (a2 : ByteArray) (a3 : Int) (a4 : Option Addr) (n4 c4 : Nat) (a5 : Option Addr) (n5 c5 : Nat) (a6 : Option Addr) (n6 c6 : Nat) (s0 s1 s2 s3 s4 s5 s6 s7 b0 b1 b2 b3 b4 b5 b6 b7 : Int) (a9 : Option Addr) (n9 c9 : Nat) (a10 a11 : Int)
    (K T L X : Nat → Int) (w : World) (hb8 : ∀ x ∈ [b0, b1, b2, b3, b4, b5, b6, b7], (Lit.int .u8 x).wf = true) (hn : n4 + n5 + n6 + n9 + a2.size ≤ 1048576)
    (z4 : a4 = none → n4 = 0) (z6 : a6 = none → n6 = 0) (z9 : a9 = none → n9 = 0)
    (l4 : Lies w a4 n4 (fun i => .int .u8 (K i))) (l5 : Lies w a5 n5 (fun i => .int .i64 (T i))) (l6 : Lies w a6 n6 (fun i => .int .i64 (L i))) (l9 : Lies w a9 n9 (fun i => .int .i64 (X i))) :
    Calls Yba.prog 4 #[.bool a0, .bool a1, .string a2, .int .i64 a3, .slice a4 n4 c4, .slice a5 n5 c5, .slice a6 n6 c6, .agg #[.int .u8 s0, .int .u8 s1, .int .u8 s2, .int .u8 s3, .int .u8 s4, .int .u8 s5, .int .u8 s6, .int .u8 s7], .agg #[.int .u8 b0, .int .u8 b1, .int .u8 b2, .int .u8 b3, .int .u8 b4, .int .u8 b5, .int .u8 b6, .int .u8 b7], .slice a9 n9 c9, .int .i64 a10, .int .i64 a11] w fun e w' => e = .returned (.bool true) ∧ Below w.heap.size w w' := by
  obtain ⟨i65, hi65, hz650, hz651, hz652⟩ := info_parts Yba.info65
  have q33 : ∀ (w : World) (a : Option Addr) (n c n' c' : Nat), (binOp .neq 33 (.slice a n c) (.slice none n' c')).run Yba.prog w = .ok (.bool (!a.isNone)) w := fun w a n c n' c' => run_neq_slice_nil_any w _ _ a n c n' c' Yba.underlying33
  have HB8 : Hid (∀ x ∈ [b0, b1, b2, b3, b4, b5, b6, b7], (Lit.int .u8 x).wf = true) := hb8
  clear hb8
  have HZ : Hid ((a4 = none → n4 = 0) ∧ (a6 = none → n6 = 0) ∧ (a9 = none → n9 = 0)) := ⟨z4, z6, z9⟩
  have HL : Hid (Lies w a4 n4 (fun i => .int .u8 (K i)) ∧ Lies w a5 n5 (fun i => .int .i64 (T i)) ∧ Lies w a6 n6 (fun i => .int .i64 (L i)) ∧ Lies w a9 n9 (fun i => .int .i64 (X i))) := ⟨l4, l5, l6, l9⟩
  clear z4 z6 z9 l4 l5 l6 l9
  have hn4 : n4 ≤ 1048576 := by omega
  have hn5 : n5 ≤ 1048576 := by omega
  have hn6 : n6 ≤ 1048576 := by omega
  have hn9 : n9 ≤ 1048576 := by omega
  have hn2 : a2.size ≤ 1048576 := by omega
  go_enter Yba.func4, Yba.ntmps4
  go_upto_if 50 with fail
  have hbW : Below w.heap.size w ((w.alloc (.cells #[.int .u8 s0, .int .u8 s1, .int .u8 s2, .int .u8 s3, .int .u8 s4, .int .u8 s5, .int .u8 s6, .int .u8 s7] 35)).alloc (.cells #[.int .u8 b0, .int .u8 b1, .int .u8 b2, .int .u8 b3, .int .u8 b4, .int .u8 b5, .int .u8 b6, .int .u8 b7] 35)) := ((Below.refl _ _).alloc (Nat.le_refl _) _).alloc (by simp) _
  have hS : Hid (((w.alloc (.cells #[.int .u8 s0, .int .u8 s1, .int .u8 s2, .int .u8 s3, .int .u8 s4, .int .u8 s5, .int .u8 s6, .int .u8 s7] 35)).alloc (.cells #[.int .u8 b0, .int .u8 b1, .int .u8 b2, .int .u8 b3, .int .u8 b4, .int .u8 b5, .int .u8 b6, .int .u8 b7] 35)).heap[w.heap.size]? = some (.cells #[.int .u8 s0, .int .u8 s1, .int .u8 s2, .int .u8 s3, .int .u8 s4, .int .u8 s5, .int .u8 s6, .int .u8 s7] 35 (0, 0))) :=
    (Below.heap_alloc _ _ _ (by simp)).trans (heap_alloc_new _ _)
  have hB : Hid (((w.alloc (.cells #[.int .u8 s0, .int .u8 s1, .int .u8 s2, .int .u8 s3, .int .u8 s4, .int .u8 s5, .int .u8 s6, .int .u8 s7] 35)).alloc (.cells #[.int .u8 b0, .int .u8 b1, .int .u8 b2, .int .u8 b3, .int .u8 b4, .int .u8 b5, .int .u8 b6, .int .u8 b7] 35)).heap[w.heap.size + 1]? = some (.cells #[.int .u8 b0, .int .u8 b1, .int .u8 b2, .int .u8 b3, .int .u8 b4, .int .u8 b5, .int .u8 b6, .int .u8 b7] 35 (0, 0))) := by
    have := heap_alloc_new (w.alloc (.cells #[.int .u8 s0, .int .u8 s1, .int .u8 s2, .int .u8 s3, .int .u8 s4, .int .u8 s5, .int .u8 s6, .int .u8 s7] 35)) (.cells #[.int .u8 b0, .int .u8 b1, .int .u8 b2, .int .u8 b3, .int .u8 b4, .int .u8 b5, .int .u8 b6, .int .u8 b7] 35)
    rw [show (w.alloc (.cells #[.int .u8 s0, .int .u8 s1, .int .u8 s2, .int .u8 s3, .int .u8 s4, .int .u8 s5, .int .u8 s6, .int .u8 s7] 35)).heap.size = w.heap.size + 1 by simp] at this
    exact this
  generalize (w.alloc (.cells #[.int .u8 s0, .int .u8 s1, .int .u8 s2, .int .u8 s3, .int .u8 s4, .int .u8 s5, .int .u8 s6, .int .u8 s7] 35)).alloc (.cells #[.int .u8 b0, .int .u8 b1, .int .u8 b2, .int .u8 b3, .int .u8 b4, .int .u8 b5, .int .u8 b6, .int .u8 b7] 35) = W0 at *
  go_cut [25, 26, 27] from 49 to 79 (fun v _ _ wx => ∃ p : Option Addr, v = .slice p n4 n4 ∧ p.isNone = a4.isNone ∧ Below W0.heap.size W0 wx ∧ CtlL wx p n4 K (atOf n5 T))
  case first =>
    rcases opt_cases a4 with rfl | ⟨x4, rfl⟩
    · have hz : Hid (n4 = 0) := HZ.out.1 rfl
      clear HZ HL
      go_wp2_with fail
      go_meet
      case rel => exact ⟨none, by rw [hz.out], rfl, Below.refl _ _, .inl hz.out⟩
    · go_wp2_with (at_make; refine wpList_make_full _ rfl (.tmp 52) (.tmp 52) 36 rfl W0.heap.size 65 i65 (.agg #[.int .u8 0, .int .i64 0]) 2 Yba.underlying36 hi65 hz650 hz651 _ _ _ _ n4 rfl rfl rfl rfl ?ma ?mb (Nat.le_refl _) ?_)
      case ma => rw [hz652]; omega
      case mb => unfold maxLen; omega
      intro w1 hown1 hg1
      have hb1 : Below W0.heap.size W0 w1 := (Below.refl _ _).grown hg1 (Nat.le_refl _) (by intro k hk; cases hk)
      have hlt1 : W0.heap.size < w1.heap.size := (hown1.lt _ rfl).2
      have hctl := Ctl.made hown1 K (atOf n5 T)
      clear hown1 hg1
      go_wp2_with fail
      go_loopw [26, 27] (fun i _ wx => ∃ k : Nat, k ≤ n4 ∧ i = .int .i64 k ∧ Below W0.heap.size W0 wx ∧ W0.heap.size < wx.heap.size ∧ Ctl wx W0.heap.size n4 k K (atOf n5 T)) (fun i _ _ => n4 - (intOf i).toNat)
      case atStart => exact ⟨0, Nat.zero_le _, rfl, hb1, hlt1, hctl⟩
      case round =>
        obtain ⟨k, hk, rfl, hbk, hltk, hck⟩ := hrel
        clear hb1 hlt1 hctl
        by_cases hlt : k < n4
        · obtain ⟨b4, o4, hx4, hl4, hc4⟩ := HL.out.1.resolve_left (by omega)
          obtain rfl : x4 = ⟨b4, o4, none⟩ := by injection hx4
          have hk4 : wr.cell? ⟨b4, o4 + k, none⟩ = some (.int .u8 (K k)) := (hbk.cell (Nat.lt_of_lt_of_le hl4 hbW.size)).trans ((hbW.cell hl4).trans (hc4 k hlt))
          obtain ⟨u0, hu0⟩ := hck.there (k * 2) (by omega)
          obtain ⟨u1, hu1⟩ := hck.there (k * 2 + 1) (by omega)
          have hf0 := hck.free (k * 2) (by omega)
          have hf1 := hck.free (k * 2 + 1) (by omega)
          by_cases h5 : 0 < n5
          · obtain ⟨b5, o5, rfl, hl5, hc5⟩ := HL.out.2.1.resolve_left (by omega)
            have hmod : k % n5 < n5 := Nat.mod_lt _ h5
            have hk5 : wr.cell? ⟨b5, o5 + k % n5, none⟩ = some (.int .i64 (T (k % n5))) := (hbk.cell (Nat.lt_of_lt_of_le hl5 hbW.size)).trans ((hbW.cell hl5).trans (hc5 _ hmod))
            have ha : Hid (T (k % n5) = atOf n5 T k) := by simp [Hid, atOf, h5]
            clear hx4 hc4 HL hc5
            go_wp2_with fail
            go_roundw
            case rel => exact ⟨k + 1, by omega, by go_num, (hbk.setCell (Nat.le_refl _) _).setCell (Nat.le_refl _) _, by simpa using hltk, hck.step hlt _ ha.out⟩
            case measure => simp [intOf]; omega
          · have ha : Hid ((k : Int) = atOf n5 T k) := by simp [Hid, atOf, h5]
            clear hx4 hc4 HL
            go_wp2_with fail
            go_roundw
            case rel => exact ⟨k + 1, by omega, by go_num, (hbk.setCell (Nat.le_refl _) _).setCell (Nat.le_refl _) _, by simpa using hltk, hck.step hlt _ ha.out⟩
            case measure => simp [intOf]; omega
        · obtain rfl : k = n4 := by omega
          go_wp2_with fail
          go_meet
          case rel => exact ⟨_, rfl, rfl, hbk, .inr ⟨_, rfl, hltk, hck⟩⟩
  case rest =>
    obtain ⟨p, rfl, hpn, hb1, hctl⟩ := hcut
    have q37 : ∀ (w : World) (a : Option Addr) (n c n' c' : Nat), (binOp .neq 37 (.slice a n c) (.slice none n' c')).run Yba.prog w = .ok (.bool (!a.isNone)) w := fun w a n c n' c' => run_neq_slice_nil_any w _ _ a n c n' c' Yba.underlying37
    have q31 : ∀ (w : World) (a : Option Addr) (n c n' c' : Nat), (binOp .neq 31 (.slice a n c) (.slice none n' c')).run Yba.prog w = .ok (.bool (!a.isNone)) w := fun w a n c n' c' => run_neq_slice_nil_any w _ _ a n c n' c' Yba.underlying31
    clear q33
    go_upto_if 81 with fail
    go_cut [28] from 80 to 87 (fun v wx => ∃ q : Option Addr, v = .slice q n6 n6 ∧ q.isNone = a6.isNone ∧ Below wc.heap.size wc wx ∧ Lies wx q n6 (fun i => .int .i64 (L i)))
    case first =>
      as_aux_lemma =>
      rcases opt_cases a6 with rfl | ⟨x6, rfl⟩
      · have hz : Hid (n6 = 0) := HZ.out.2.1 rfl
        clear HZ HL
        go_wp2_with fail
        go_meet
        case rel => exact ⟨none, by rw [hz.out], rfl, Below.refl _ _, .inl hz.out⟩
      · obtain ⟨iE, hiE, hzE0, hzE1, hzE2⟩ := info_parts Yba.info3
        have hsrc : Hid (n6 = 0 ∨ ∃ b off, x6 = (⟨b, off, none⟩ : Addr) ∧ b < w.heap.size ∧ ∀ i, i < n6 → w.cell? ⟨b, off + i, none⟩ = some (.int .i64 (L i))) := by
          rcases HL.out.2.2.1 with h | ⟨b, off, he, hlt, hc⟩
          · exact .inl h
          · exact .inr ⟨b, off, by injection he, hlt, hc⟩
        have hbw : Below w.heap.size w wc := hbW.trans (hb1.mono hbW.size)
        clear HL HZ
        go_wp2_with (at_make; refine wpList_make_full _ rfl (.tmp 83) (.tmp 83) 37 rfl wc.heap.size 3 iE (.int .i64 0) 1 Yba.underlying37 hiE hzE0 hzE1 _ _ _ _ n6 rfl rfl rfl rfl ?ma ?mb (Nat.le_refl _) ?_)
        case ma => rw [hzE2]; omega
        case mb => unfold maxLen; omega
        intro w1 hown1 hg1
        have hbm : Below wc.heap.size wc w1 := (Below.refl _ _).grown hg1 (Nat.le_refl _) (by intro k hk; cases hk)
        have hltm : wc.heap.size < w1.heap.size := (hown1.lt _ rfl).2
        obtain ⟨cur, hblk, hcl⟩ : ∃ cur : List Value, w1.heap[wc.heap.size]? = some (.cells cur.toArray 3 (0, 0)) ∧ cur.length = n6 := by
          rcases hown1.2 with ⟨h, _⟩ | ⟨g, cap, cur, h, _, hblk, _, _, hcs, _⟩
          · cases h
          · injection h with h1 h2 h3; injection h1 with h1; injection h1 with h1; subst h1; subst h3
            exact ⟨cur.toList, by simpa using hblk, by simpa using hcs⟩
        have hblk' : Hid (w1.heap[wc.heap.size]? = some (.cells cur.toArray 3 (0, 0))) := hblk
        obtain ⟨cs, hcs⟩ : ∃ cs : List Value, Hid (cs = (List.range n6).map fun i => Value.int .i64 (L i)) := ⟨_, rfl⟩
        clear hown1 hg1 hblk
        go_upto_region 16 with fail
        go_wp2_with (refine wpList_copy_splice rfl (.tmp 85) (.tmp 86) 37 37 rfl 3 Yba.underlying37 Yba.size3 _ _ _ _ _ _ rfl rfl wc.heap.size 0 cur 3 hblk'.out cs ?ca ?cb ?cc ?cd wc.heap.size wc hbm (Nat.le_refl _) ?_)
        case ca => rw [hcs.out]; simp
        case cb =>
          intro hpos j v hj
          have hj' : j < n6 ∧ v = .int .i64 (L j) := by
            rw [hcs.out] at hj
            have hjn : j < n6 := by have := (List.getElem?_eq_some_iff.1 hj).1; simpa using this
            exact ⟨hjn, by simpa [hjn] using hj.symm⟩
          obtain ⟨b, off, rfl, hlt, hc⟩ := hsrc.out.resolve_left (by omega)
          rw [hj'.2]
          have e1 := (hbm.cell (p := ⟨b, off + j, none⟩) (Nat.lt_of_lt_of_le hlt hbw.size)).trans ((hbw.cell hlt).trans (hc j hj'.1))
          first | exact e1 | (rw [Addr.add_lit]; exact e1)
        case cc => rw [hcs.out]; simp; omega
        case cd => intro v hv; rw [hcs.out] at hv; obtain ⟨i, _, rfl⟩ := List.mem_map.1 hv; rfl
        intro w2 hrow hb2
        have hlies : Lies w2 (some ⟨wc.heap.size, 0, none⟩) n6 (fun i => .int .i64 (L i)) := by
          refine .inr ⟨wc.heap.size, 0, rfl, ?_, fun i hi => ?_⟩
          · have := hrow.out
            exact (Array.getElem?_eq_some_iff.1 this).1
          · have e : splice cur 0 cs = cs := by
              have : cs.length = n6 := by rw [hcs.out]; simp
              unfold splice
              rw [List.drop_eq_nil_of_le (by omega)]; simp
            have := hrow.out
            rw [e, hcs.out] at this
            simp [World.cell?, this, hi]
        clear hrow hcs hblk' hbm hsrc hbw hltm
        go_wp2_with fail
        go_meet
        case rel => exact ⟨_, rfl, rfl, hb2, hlies⟩
    case rest =>
    obtain ⟨q, rfl, hqn, hbq, hlq⟩ := hcut
    have hb1' := hb1.trans (hbq.mono hb1.size)
    have hctl' := hctl.below hbq
    clear hb1 hbq hctl
    have hb1 := hb1'
    have hctl := hctl'
    clear hb1' hctl'
    go_upto_if 89 with fail
    go_cut [29] from 88 to 95 (fun v wx => ∃ q : Option Addr, v = .slice q n9 n9 ∧ q.isNone = a9.isNone ∧ Below wc.heap.size wc wx ∧ Lies wx q n9 (fun i => .int .i64 (X i)))
    case first =>
      as_aux_lemma =>
      rcases opt_cases a9 with rfl | ⟨x9, rfl⟩
      · have hz : Hid (n9 = 0) := HZ.out.2.2 rfl
        clear HZ HL
        go_wp2_with fail
        go_meet
        case rel => exact ⟨none, by rw [hz.out], rfl, Below.refl _ _, .inl hz.out⟩
      · obtain ⟨iE, hiE, hzE0, hzE1, hzE2⟩ := info_parts Yba.info2
        have hsrc : Hid (n9 = 0 ∨ ∃ b off, x9 = (⟨b, off, none⟩ : Addr) ∧ b < w.heap.size ∧ ∀ i, i < n9 → w.cell? ⟨b, off + i, none⟩ = some (.int .i64 (X i))) := by
          rcases HL.out.2.2.2 with h | ⟨b, off, he, hlt, hc⟩
          · exact .inl h
          · exact .inr ⟨b, off, by injection he, hlt, hc⟩
        have hbw : Below w.heap.size w wc := hbW.trans (hb1.mono hbW.size)
        clear HL HZ
        go_wp2_with (at_make; refine wpList_make_full _ rfl (.tmp 91) (.tmp 91) 31 rfl wc.heap.size 2 iE (.int .i64 0) 1 Yba.underlying31 hiE hzE0 hzE1 _ _ _ _ n9 rfl rfl rfl rfl ?ma ?mb (Nat.le_refl _) ?_)
        case ma => rw [hzE2]; omega
        case mb => unfold maxLen; omega
        intro w1 hown1 hg1
        have hbm : Below wc.heap.size wc w1 := (Below.refl _ _).grown hg1 (Nat.le_refl _) (by intro k hk; cases hk)
        have hltm : wc.heap.size < w1.heap.size := (hown1.lt _ rfl).2
        obtain ⟨cur, hblk, hcl⟩ : ∃ cur : List Value, w1.heap[wc.heap.size]? = some (.cells cur.toArray 2 (0, 0)) ∧ cur.length = n9 := by
          rcases hown1.2 with ⟨h, _⟩ | ⟨g, cap, cur, h, _, hblk, _, _, hcs, _⟩
          · cases h
          · injection h with h1 h2 h3; injection h1 with h1; injection h1 with h1; subst h1; subst h3
            exact ⟨cur.toList, by simpa using hblk, by simpa using hcs⟩
        have hblk' : Hid (w1.heap[wc.heap.size]? = some (.cells cur.toArray 2 (0, 0))) := hblk
        obtain ⟨cs, hcs⟩ : ∃ cs : List Value, Hid (cs = (List.range n9).map fun i => Value.int .i64 (X i)) := ⟨_, rfl⟩
        clear hown1 hg1 hblk
        go_upto_region 20 with fail
        go_wp2_with (refine wpList_copy_splice rfl (.tmp 93) (.tmp 94) 31 31 rfl 2 Yba.underlying31 Yba.size2 _ _ _ _ _ _ rfl rfl wc.heap.size 0 cur 2 hblk'.out cs ?ca ?cb ?cc ?cd wc.heap.size wc hbm (Nat.le_refl _) ?_)
        case ca => rw [hcs.out]; simp
        case cb =>
          intro hpos j v hj
          have hj' : j < n9 ∧ v = .int .i64 (X j) := by
            rw [hcs.out] at hj
            have hjn : j < n9 := by have := (List.getElem?_eq_some_iff.1 hj).1; simpa using this
            exact ⟨hjn, by simpa [hjn] using hj.symm⟩
          obtain ⟨b, off, rfl, hlt, hc⟩ := hsrc.out.resolve_left (by omega)
          rw [hj'.2]
          have e1 := (hbm.cell (p := ⟨b, off + j, none⟩) (Nat.lt_of_lt_of_le hlt hbw.size)).trans ((hbw.cell hlt).trans (hc j hj'.1))
          first | exact e1 | (rw [Addr.add_lit]; exact e1)
        case cc => rw [hcs.out]; simp; omega
        case cd => intro v hv; rw [hcs.out] at hv; obtain ⟨i, _, rfl⟩ := List.mem_map.1 hv; rfl
        intro w2 hrow hb2
        have hlies : Lies w2 (some ⟨wc.heap.size, 0, none⟩) n9 (fun i => .int .i64 (X i)) := by
          refine .inr ⟨wc.heap.size, 0, rfl, ?_, fun i hi => ?_⟩
          · have := hrow.out
            exact (Array.getElem?_eq_some_iff.1 this).1
          · have e : splice cur 0 cs = cs := by
              have : cs.length = n9 := by rw [hcs.out]; simp
              unfold splice
              rw [List.drop_eq_nil_of_le (by omega)]; simp
            have := hrow.out
            rw [e, hcs.out] at this
            simp [World.cell?, this, hi]
        clear hrow hcs hblk' hbm hsrc hbw hltm
        go_wp2_with fail
        go_meet
        case rel => exact ⟨_, rfl, rfl, hb2, hlies⟩
    case rest =>
    obtain ⟨s, rfl, hsn, hbq, hls⟩ := hcut
    have hb1' := hb1.trans (hbq.mono hb1.size)
    have hctl' := hctl.below hbq
    have hlq' := hlq.below hbq
    clear hb1 hbq hctl hlq q37 q31
    go_upto_if 96 with fail
    go_cut [30] from 97 to 100 (fun v wx => ∃ d : Option Addr, v = .pointer d ∧ Below wc.heap.size wc wx ∧ (d = none ∨ ∃ gd, d = some ⟨gd, 0, none⟩ ∧ gd < wx.heap.size ∧ wx.heap[gd]? = some (.cells #[.string a2, .nilFunc, .slice none 0 0, .int .u8 0, .bool false, .int .i64 a3, .int .i64 0, .int .i64 0] 29 (0, 0))))
    case first =>
      as_aux_lemma =>
      cases a0
      · go_wp2_with fail
        go_meet
        case rel => exact ⟨none, rfl, Below.refl _ _, .inl rfl⟩
      · go_wp2_with fail
        go_meet
        case rel => exact ⟨_, rfl, (Below.refl _ _).alloc (Nat.le_refl _) _, .inr ⟨_, rfl, by simp, heap_alloc_new _ _⟩⟩
    case rest =>
    as_aux_lemma =>
    obtain ⟨d, rfl, hbd, hd⟩ := hcut
    have hb1 := hb1'.trans (hbd.mono hb1'.size)
    have hctl := hctl'.below hbd
    have hlq := hlq'.below hbd
    have hls' := hls.below hbd
    have hblS : Hid (wc.heap[w.heap.size]? = some (.cells #[.int .u8 s0, .int .u8 s1, .int .u8 s2, .int .u8 s3, .int .u8 s4, .int .u8 s5, .int .u8 s6, .int .u8 s7] 35 (0, 0))) := (hb1.block _ (Array.getElem?_eq_some_iff.1 hS.out).1).trans hS.out
    have hblB : Hid (wc.heap[w.heap.size + 1]? = some (.cells #[.int .u8 b0, .int .u8 b1, .int .u8 b2, .int .u8 b3, .int .u8 b4, .int .u8 b5, .int .u8 b6, .int .u8 b7] 35 (0, 0))) := (hb1.block _ (Array.getElem?_eq_some_iff.1 hB.out).1).trans hB.out
    have hbw : Below w.heap.size w wc := hbW.trans (hb1.mono hbW.size)
    clear hbd hb1' hctl' hlq' hls hS hB hb1 hbW
    have cS0 : wc.cell? ⟨w.heap.size, 0, none⟩ = some (.int .u8 s0) := by simp only [World.cell?, hblS.out]; rfl
    have cB0 : wc.cell? ⟨w.heap.size + 1, 0, none⟩ = some (.int .u8 b0) := by simp only [World.cell?, hblB.out]; rfl
    have cS1 : wc.cell? ⟨w.heap.size, 1, none⟩ = some (.int .u8 s1) := by simp only [World.cell?, hblS.out]; rfl
    have cB1 : wc.cell? ⟨w.heap.size + 1, 1, none⟩ = some (.int .u8 b1) := by simp only [World.cell?, hblB.out]; rfl
    have cS2 : wc.cell? ⟨w.heap.size, 2, none⟩ = some (.int .u8 s2) := by simp only [World.cell?, hblS.out]; rfl
    have cB2 : wc.cell? ⟨w.heap.size + 1, 2, none⟩ = some (.int .u8 b2) := by simp only [World.cell?, hblB.out]; rfl
    have cS3 : wc.cell? ⟨w.heap.size, 3, none⟩ = some (.int .u8 s3) := by simp only [World.cell?, hblS.out]; rfl
    have cB3 : wc.cell? ⟨w.heap.size + 1, 3, none⟩ = some (.int .u8 b3) := by simp only [World.cell?, hblB.out]; rfl
    have cS4 : wc.cell? ⟨w.heap.size, 4, none⟩ = some (.int .u8 s4) := by simp only [World.cell?, hblS.out]; rfl
    have cB4 : wc.cell? ⟨w.heap.size + 1, 4, none⟩ = some (.int .u8 b4) := by simp only [World.cell?, hblB.out]; rfl
    have cS5 : wc.cell? ⟨w.heap.size, 5, none⟩ = some (.int .u8 s5) := by simp only [World.cell?, hblS.out]; rfl
    have cB5 : wc.cell? ⟨w.heap.size + 1, 5, none⟩ = some (.int .u8 b5) := by simp only [World.cell?, hblB.out]; rfl
    have cS6 : wc.cell? ⟨w.heap.size, 6, none⟩ = some (.int .u8 s6) := by simp only [World.cell?, hblS.out]; rfl
    have cB6 : wc.cell? ⟨w.heap.size + 1, 6, none⟩ = some (.int .u8 b6) := by simp only [World.cell?, hblB.out]; rfl
    have cS7 : wc.cell? ⟨w.heap.size, 7, none⟩ = some (.int .u8 s7) := by simp only [World.cell?, hblS.out]; rfl
    have cB7 : wc.cell? ⟨w.heap.size + 1, 7, none⟩ = some (.int .u8 b7) := by simp only [World.cell?, hblB.out]; rfl
    obtain ⟨cells, hcells, hev⟩ := ev9 d p q s a1 n4 n6 n9 s0 s1 s2 s3 s4 s5 s6 s7 b0 b1 b2 b3 b4 b5 b6 b7 a10 a11
    have HB : Built _ cells := ⟨hcells⟩
    clear hcells
    go_upto_region 24 with fail
    go_cut [31] from 101 to 111 (fun v wx => v = .pointer (some ⟨wc.heap.size, 0, none⟩) ∧ Below wc.heap.size wc wx ∧ Open wx wc.heap.size ∧ ∀ o, wx.cell? ⟨wc.heap.size, o, none⟩ = cells[o]?)
    case first =>
      as_aux_lemma =>
      go_wp2_with (refine wpList_build9 rfl (.tmp 101) (.tmp 102) (.tmp 103) (.tmp 104) (.tmp 105) (.tmp 106) (.tmp 107) (.tmp 108) (.tmp 109) rfl _ _ _ _ _ _ _ _ _ rfl rfl rfl rfl rfl rfl rfl rfl rfl cells HB ?_)
      go_wp2_with fail
      go_meet
      case rel => exact ⟨rfl, (Below.refl _ _).alloc (Nat.le_refl _) _, open_new wc cells hev.size, cell_new wc cells⟩
    case rest =>
    as_aux_lemma =>
    obtain ⟨rfl, hbe, hop, hce⟩ := hcut
    have HST : Hid (Calls Yba.prog 6 _ wc _) := stop_any _ n4 n4 n6 n6 p q wc hop ((hce 25).trans hev.e25) ((hce 26).trans hev.e26)
    have HCE : Hid (∀ o, wc.cell? ⟨_, o, none⟩ = cells[o]?) := hce
    clear hce
    go_wp2_with fail
    refine HST.out.mono ?_
    rintro e w7 ⟨rfl, hst⟩
    have hb7 := hbe.trans hst.below
    have g7 := hst.c7
    have g449 := hst.c449
    have g25 := hst.c25
    have g26 := hst.c26
    have st9 := hst.state 9 (by omega) (by omega)
    have st10 := hst.state 10 (by omega) (by omega)
    have st11 := hst.state 11 (by omega) (by omega)
    have st12 := hst.state 12 (by omega) (by omega)
    have st13 := hst.state 13 (by omega) (by omega)
    have st14 := hst.state 14 (by omega) (by omega)
    have st15 := hst.state 15 (by omega) (by omega)
    have st16 := hst.state 16 (by omega) (by omega)
    have f0 := (hst.other 0 (by omega) (by omega) (by omega) (by omega) (by omega)).trans ((HCE.out 0).trans hev.e0)
    have f5 := (hst.other 5 (by omega) (by omega) (by omega) (by omega) (by omega)).trans ((HCE.out 5).trans hev.e5)
    have f6 := (hst.other 6 (by omega) (by omega) (by omega) (by omega) (by omega)).trans ((HCE.out 6).trans hev.e6)
    have f8 := (hst.other 8 (by omega) (by omega) (by omega) (by omega) (by omega)).trans ((HCE.out 8).trans hev.e8)
    have f17 := (hst.other 17 (by omega) (by omega) (by omega) (by omega) (by omega)).trans ((HCE.out 17).trans hev.e17)
    have f18 := (hst.other 18 (by omega) (by omega) (by omega) (by omega) (by omega)).trans ((HCE.out 18).trans hev.e18)
    have f19 := (hst.other 19 (by omega) (by omega) (by omega) (by omega) (by omega)).trans ((HCE.out 19).trans hev.e19)
    have f20 := (hst.other 20 (by omega) (by omega) (by omega) (by omega) (by omega)).trans ((HCE.out 20).trans hev.e20)
    have f21 := (hst.other 21 (by omega) (by omega) (by omega) (by omega) (by omega)).trans ((HCE.out 21).trans hev.e21)
    have f22 := (hst.other 22 (by omega) (by omega) (by omega) (by omega) (by omega)).trans ((HCE.out 22).trans hev.e22)
    have f23 := (hst.other 23 (by omega) (by omega) (by omega) (by omega) (by omega)).trans ((HCE.out 23).trans hev.e23)
    have f24 := (hst.other 24 (by omega) (by omega) (by omega) (by omega) (by omega)).trans ((HCE.out 24).trans hev.e24)
    have f27 := (hst.other 27 (by omega) (by omega) (by omega) (by omega) (by omega)).trans ((HCE.out 27).trans hev.e27)
    have f28 := (hst.other 28 (by omega) (by omega) (by omega) (by omega) (by omega)).trans ((HCE.out 28).trans hev.e28)
    have f446 := (hst.other 446 (by omega) (by omega) (by omega) (by omega) (by omega)).trans ((HCE.out 446).trans hev.e446)
    have hctl7 : Hid (CtlL w7 p n4 K (atOf n5 T)) := hctl.below hb7
    have hlq7 : Hid (Lies w7 q n6 (fun i => .int .i64 (L i))) := hlq.below hb7
    have hls7 : Hid (Lies w7 s n9 (fun i => .int .i64 (X i))) := hls'.below hb7
    have hbw7 : Below w.heap.size w w7 := hbw.trans (hb7.mono hbw.size)
    have hd7 : Hid (d = none ∨ ∃ gd, d = some ⟨gd, 0, none⟩ ∧ w7.heap[gd]? = some (.cells #[.string a2, .nilFunc, .slice none 0 0, .int .u8 0, .bool false, .int .i64 a3, .int .i64 0, .int .i64 0] 29 (0, 0))) := by
      rcases hd with h | ⟨gd, h1, h2, h3⟩
      · exact .inl h
      · exact .inr ⟨gd, h1, (hb7.block gd h2).trans h3⟩
    have hblB7 : Hid (w7.heap[w.heap.size + 1]? = some (.cells #[.int .u8 b0, .int .u8 b1, .int .u8 b2, .int .u8 b3, .int .u8 b4, .int .u8 b5, .int .u8 b6, .int .u8 b7] 35 (0, 0))) := (hb7.block _ (Array.getElem?_eq_some_iff.1 hblB.out).1).trans hblB.out
    have HL7 : Hid (Lies w7 a4 n4 (fun i => .int .u8 (K i)) ∧ Lies w7 a5 n5 (fun i => .int .i64 (T i)) ∧ Lies w7 a6 n6 (fun i => .int .i64 (L i)) ∧ Lies w7 a9 n9 (fun i => .int .i64 (X i))) :=
      ⟨HL.out.1.below hbw7, HL.out.2.1.below hbw7, HL.out.2.2.1.below hbw7, HL.out.2.2.2.below hbw7⟩
    clear hst hb7 hctl hlq hls' hd hblB hblS HL hbe hop HCE hbw HB hev HST HZ
    clear cS0 cB0
    clear cS1 cB1
    clear cS2 cB2
    clear cS3 cB3
    clear cS4 cB4
    clear cS5 cB5
    clear cS6 cB6
    clear cS7 cB7
    have q33 : ∀ (w : World) (a : Option Addr) (n c n' c' : Nat), (binOp .eql 33 (.slice a n c) (.slice none n' c')).run Yba.prog w = .ok (.bool a.isNone) w := fun w a n c n' c' => Lib.run_eql_slice_nil w _ _ a n c n' c' Yba.underlying33
    have q36 : ∀ (w : World) (a : Option Addr) (n c n' c' : Nat), (binOp .eql 36 (.slice a n c) (.slice none n' c')).run Yba.prog w = .ok (.bool a.isNone) w := fun w a n c n' c' => Lib.run_eql_slice_nil w _ _ a n c n' c' Yba.underlying36
    have q37 : ∀ (w : World) (a : Option Addr) (n c n' c' : Nat), (binOp .eql 37 (.slice a n c) (.slice none n' c')).run Yba.prog w = .ok (.bool a.isNone) w := fun w a n c n' c' => Lib.run_eql_slice_nil w _ _ a n c n' c' Yba.underlying37
    have q31 : ∀ (w : World) (a : Option Addr) (n c n' c' : Nat), (binOp .eql 31 (.slice a n c) (.slice none n' c')).run Yba.prog w = .ok (.bool a.isNone) w := fun w a n c n' c' => Lib.run_eql_slice_nil w _ _ a n c n' c' Yba.underlying31
    go_wp2_with fail
    go_loopw [32, 33] (fun i _ wx => ∃ k : Nat, k ≤ n4 ∧ i = .int .i64 k ∧ ∃ m, wx = w7.drewN m) (fun i _ _ => n4 - (intOf i).toNat)
    case atStart => exact ⟨0, Nat.zero_le _, rfl, 0, rfl⟩
    case round =>
      obtain ⟨k, hk, rfl, m, rfl⟩ := hrel
      by_cases hlt : k < n4
      · as_aux_lemma =>
        obtain ⟨b4', o4, rfl, _, hc4⟩ := HL7.out.1.resolve_left (by omega)
        obtain ⟨g, rfl, _, hc⟩ := hctl7.out.resolve_left (by omega)
        have e0 := hc4 k hlt
        have e1 := hc.kind k hlt
        have e2 := hc.at_ k hlt
        by_cases h5 : 0 < n5
        · obtain ⟨b5', o5, rfl, _, hc5⟩ := HL7.out.2.1.resolve_left (by omega)
          have hmod : k % n5 < n5 := Nat.mod_lt _ h5
          have e3 := hc5 _ hmod
          have ha : atOf n5 T k = T (k % n5) := by simp [atOf, h5]
          rw [ha] at e2
          clear hc4 hc hc5 ha HL7 hctl7
          go_wp2_with fail
          go_quiet (fail)
          go_wp2_with fail
          go_roundw
          case rel =>
            (repeat apply Exists.intro)
            exact ⟨⟨k + 1, by omega, by go_num, _, rfl⟩, rfl⟩
          case measure => simp [intOf]; omega
        · have ha : atOf n5 T k = k := by simp [atOf, h5]
          rw [ha] at e2
          clear hc4 hc ha HL7 hctl7
          go_wp2_with fail
          go_quiet (fail)
          go_wp2_with fail
          go_roundw
          case rel =>
            (repeat apply Exists.intro)
            exact ⟨⟨k + 1, by omega, by go_num, _, rfl⟩, rfl⟩
          case measure => simp [intOf]; omega
      · as_aux_lemma =>
        go_wp2_with fail
        refine (sameint q a6 n6 n6 c6 L _ hn6 (hlq7.out.drewN _) (HL7.out.2.2.1.drewN _)).mono ?_
        rintro e w8 ⟨rfl, m2, hw⟩
        rw [hw]
        clear hw
        have cB0 : w7.cell? ⟨w.heap.size + 1, 0, none⟩ = some (.int .u8 b0) := by simp only [World.cell?, hblB7.out]; rfl
        have cB1 : w7.cell? ⟨w.heap.size + 1, 1, none⟩ = some (.int .u8 b1) := by simp only [World.cell?, hblB7.out]; rfl
        have cB2 : w7.cell? ⟨w.heap.size + 1, 2, none⟩ = some (.int .u8 b2) := by simp only [World.cell?, hblB7.out]; rfl
        have cB3 : w7.cell? ⟨w.heap.size + 1, 3, none⟩ = some (.int .u8 b3) := by simp only [World.cell?, hblB7.out]; rfl
        have cB4 : w7.cell? ⟨w.heap.size + 1, 4, none⟩ = some (.int .u8 b4) := by simp only [World.cell?, hblB7.out]; rfl
        have cB5 : w7.cell? ⟨w.heap.size + 1, 5, none⟩ = some (.int .u8 b5) := by simp only [World.cell?, hblB7.out]; rfl
        have cB6 : w7.cell? ⟨w.heap.size + 1, 6, none⟩ = some (.int .u8 b6) := by simp only [World.cell?, hblB7.out]; rfl
        have cB7 : w7.cell? ⟨w.heap.size + 1, 7, none⟩ = some (.int .u8 b7) := by simp only [World.cell?, hblB7.out]; rfl
        have z35 : ∀ w, (Op.equalIn 10000 35 (.agg #[.int .u8 0, .int .u8 0, .int .u8 0, .int .u8 0, .int .u8 0, .int .u8 0, .int .u8 0, .int .u8 0]) (.agg #[.int .u8 0, .int .u8 0, .int .u8 0, .int .u8 0, .int .u8 0, .int .u8 0, .int .u8 0, .int .u8 0])).run Yba.prog w = .ok true w := eq35 0 0 0 0 0 0 0 0 (by decide)
        have e35 : ∀ w, (Op.equalIn 10000 35 (.agg #[.int .u8 b0, .int .u8 b1, .int .u8 b2, .int .u8 b3, .int .u8 b4, .int .u8 b5, .int .u8 b6, .int .u8 b7]) (.agg #[.int .u8 b0, .int .u8 b1, .int .u8 b2, .int .u8 b3, .int .u8 b4, .int .u8 b5, .int .u8 b6, .int .u8 b7])).run Yba.prog w = .ok true w := eq35 b0 b1 b2 b3 b4 b5 b6 b7 HB8.out
        go_wp2_with fail
        go_quiet (fail)
        clear z35 e35 cB0 cB1 cB2 cB3 cB4 cB5 cB6 cB7 HB8
        have q34 : ∀ w, (binOp .neq 34 (.map none) (.map none)).run Yba.prog w = .ok (.bool false) w := fun w => by
          have := run_neq_map_nil (P := Yba.prog) w 34 _ _ none Yba.underlying34
          simpa using this
        have q26 : ∀ w, (binOp .neq 26 (.slice none 0 0) (.slice none 0 0)).run Yba.prog w = .ok (.bool false) w := fun w => by
          have := run_neq_slice_nil_any (P := Yba.prog) w 26 _ none 0 0 0 0 Yba.underlying26
          simpa using this
        go_wp2_with fail
        refine (same64 s a9 n9 n9 c9 X _ hn9 (hls7.out.drewN _) (HL7.out.2.2.2.drewN _)).mono ?_
        rintro e w9 ⟨rfl, m3, hw⟩
        rw [hw]
        clear hw
        go_upto_if 287 with fail
        rcases hd7.out with rfl | ⟨gd, rfl, hgd⟩
        · go_wp2
          go_ret
          exact ⟨rfl, by repeat (first | exact hbw7 | refine below_drewN ?_ _)⟩
        · have d0 : w7.cell? ⟨gd, 0, none⟩ = some (.string a2) := by simp only [World.cell?, hgd]; rfl
          have d2 : w7.cell? ⟨gd, 2, none⟩ = some (.slice none 0 0) := by simp only [World.cell?, hgd]; rfl
          have d4 : w7.cell? ⟨gd, 4, none⟩ = some (.bool false) := by simp only [World.cell?, hgd]; rfl
          have d5 : w7.cell? ⟨gd, 5, none⟩ = some (.int .i64 a3) := by simp only [World.cell?, hgd]; rfl
          clear hgd
          go_wp2
          go_ret
          exact ⟨rfl, by repeat (first | exact hbw7 | refine below_drewN ?_ _)⟩

end Go.Proofs.Ybulkefxw
