/-
  What the walk of LawS6613AWhole carries: which block each word lies in, the row of pointers as it is filled, the words that lie.
-/
import Derived.Test.YbulkefxwWord
import Derived.WalkSmall
import Derived.Laws.OwnMore
import Derived.Lib.Builder
namespace Go.Proofs.Ybulkefxw
open Go.RowKit Go.Lib

/-- How many of the first k names are not empty. -/
def cnt (S : Nat → ByteArray) : Nat → Nat
  | 0 => 0
  | k + 1 => cnt S k + if (S k).toList.isEmpty then 0 else 1
/-- The address of the word of name k: nil for an empty name; else the block behind those of the earlier words. -/
def tokP (B : Nat) (S : Nat → ByteArray) (k : Nat) : Option Addr := if (S k).toList.isEmpty then none else some ⟨B + cnt S k, 0, none⟩

theorem cnt_empty {S : Nat → ByteArray} {k : Nat} (h : (S k).toList.isEmpty = true) : cnt S (k + 1) = cnt S k := by simp [cnt, h]
theorem cnt_full {S : Nat → ByteArray} {k : Nat} (h : (S k).toList.isEmpty = false) : cnt S (k + 1) = cnt S k + 1 := by simp [cnt, h]
theorem tokP_empty {B : Nat} {S : Nat → ByteArray} {k : Nat} (h : (S k).toList.isEmpty = true) : tokP B S k = none := by simp [tokP, h]
theorem tokP_full {B : Nat} {S : Nat → ByteArray} {k : Nat} (h : (S k).toList.isEmpty = false) : tokP B S k = some ⟨B + cnt S k, 0, none⟩ := by simp [tokP, h]

/-- The first k words: the row of pointers at block g (n cells), the words from block B on; of what was there before the call nothing has turned. -/
structure Toks (w wr : World) (g B n : Nat) (S : Nat → ByteArray) (k : Nat) : Prop where
  below : Below w.heap.size w wr
  size : wr.heap.size = B + cnt S k
  done : ∀ i, i < k → wr.cell? ⟨g, i, none⟩ = some (.pointer (tokP B S i))
  rest : ∀ i, k ≤ i → i < n → wr.cell? ⟨g, i, none⟩ = some (.pointer none)
  free : ∀ i, i < n → wr.frozen? ⟨g, i, none⟩ = false
  name : ∀ i, i < k → (S i).toList.isEmpty = false → wr.cell? ⟨B + cnt S i, 0, none⟩ = some (.string (S i))
  num : ∀ i, i < k → (S i).toList.isEmpty = false → wr.cell? ⟨B + cnt S i, 5, none⟩ = some (.int .i64 i)

/-- A round at an empty name. -/
theorem Toks.skip {w wr : World} {g B n : Nat} {S : Nat → ByteArray} {k : Nat} (h : Toks w wr g B n S k) (hk : k < n) (he : (S k).toList.isEmpty = true) : Toks w wr g B n S (k + 1) where
  below := h.below
  size := by rw [cnt_empty he]; exact h.size
  done i hi := by
    by_cases e : i = k
    · subst e; rw [tokP_empty he]; exact h.rest i (Nat.le_refl _) hk
    · exact h.done i (by omega)
  rest i h1 h2 := h.rest i (by omega) h2
  free := h.free
  name i hi hf := by
    by_cases e : i = k
    · subst e; rw [he] at hf; cases hf
    · exact h.name i (by omega) hf
  num i hi hf := by
    by_cases e : i = k
    · subst e; rw [he] at hf; cases hf
    · exact h.num i (by omega) hf

/-- What the law lays for a word. -/
def wordO (s : ByteArray) (k : Nat) : Obj := .cells #[.string s, .nilFunc, .slice none 0 0, .int .u8 0, .bool false, .int .i64 k, .int .i64 0, .int .i64 0] 29

/-- A round at a name that is not empty: the word is laid, and its address stored. -/
theorem Toks.step {w wr : World} {g B n : Nat} {S : Nat → ByteArray} {k : Nat} (h : Toks w wr g B n S k) (hk : k < n) (hf : (S k).toList.isEmpty = false) (hg : g < B) (hwg : w.heap.size ≤ g) :
    Toks w ((wr.setCell ⟨g, k, none⟩ (.pointer (some ⟨wr.heap.size, 0, none⟩))).alloc (wordO (S k) k)) g B n S (k + 1) := by
  have hsz := h.size
  have old : ∀ a : Addr, a.block < wr.heap.size → ((wr.setCell ⟨g, k, none⟩ (.pointer (some ⟨wr.heap.size, 0, none⟩))).alloc (wordO (S k) k)).cell? a = (wr.setCell ⟨g, k, none⟩ (.pointer (some ⟨wr.heap.size, 0, none⟩))).cell? a := fun a ha =>
    World.cell?_of_block (Below.heap_alloc _ _ _ (by simpa using ha))
  have far : ∀ a : Addr, a.block < wr.heap.size → a.block ≠ g → ((wr.setCell ⟨g, k, none⟩ (.pointer (some ⟨wr.heap.size, 0, none⟩))).alloc (wordO (S k) k)).cell? a = wr.cell? a := fun a ha hn =>
    (old a ha).trans (World.cell?_of_block (Below.heap_setCell _ _ _ _ hn))
  have new : ((wr.setCell ⟨g, k, none⟩ (.pointer (some ⟨wr.heap.size, 0, none⟩))).alloc (wordO (S k) k)).heap[wr.heap.size]? = some (wordO (S k) k) := by
    have := heap_alloc_new (wr.setCell ⟨g, k, none⟩ (.pointer (some ⟨wr.heap.size, 0, none⟩))) (wordO (S k) k)
    rw [show (wr.setCell ⟨g, k, none⟩ (.pointer (some ⟨wr.heap.size, 0, none⟩))).heap.size = wr.heap.size by simp] at this
    exact this
  have cle : ∀ i, i < k → (S i).toList.isEmpty = false → B + cnt S i < B + cnt S k := by
    intro i hi hf
    have mono : ∀ a b, a ≤ b → cnt S a ≤ cnt S b := by
      intro a b hab
      induction b with
      | zero => have : a = 0 := by omega
                subst this; exact Nat.le_refl _
      | succ b ih =>
        by_cases e : a = b + 1
        · subst e; exact Nat.le_refl _
        · have := ih (by omega)
          simp only [cnt]; omega
    have h1 := cnt_full hf
    have h2 := mono (i + 1) k (by omega)
    omega
  refine ⟨?_, ?_, ?_, ?_, ?_, ?_, ?_⟩
  · exact (h.below.setCell hwg _).alloc (by simpa using h.below.size) _
  · simp [cnt_full hf, hsz]; omega
  · intro i hi
    rw [old _ (by show g < _; omega)]
    by_cases e : i = k
    · subst e
      rw [tokP_full hf, ← hsz]
      exact World.cell?_setCell_same _ _ _ (h.rest i (Nat.le_refl _) hk)
    · rw [World.cell?_setCell_other _ _ _ _ (by intro h'; injection h' with _ h2 _; omega)]
      exact h.done i (by omega)
  · intro i h1 h2
    rw [old _ (by show g < _; omega), World.cell?_setCell_other _ _ _ _ (by intro h'; injection h' with _ h2 _; omega)]
    exact h.rest i (by omega) h2
  · intro i hi
    have e1 : ((wr.setCell ⟨g, k, none⟩ (.pointer (some ⟨wr.heap.size, 0, none⟩))).alloc (wordO (S k) k)).frozen? ⟨g, i, none⟩ = (wr.setCell ⟨g, k, none⟩ (.pointer (some ⟨wr.heap.size, 0, none⟩))).frozen? ⟨g, i, none⟩ :=
      World.frozen?_of_block (Below.heap_alloc _ _ _ (by show g < _; simp; omega))
    rw [e1, World.frozen?_setCell]
    exact h.free i hi
  · intro i hi hfi
    by_cases e : i = k
    · subst e
      rw [← hsz]
      simp only [World.cell?, new]
      rfl
    · have := cle i (by omega) hfi
      rw [far _ (by show B + cnt S i < _; omega) (by show B + cnt S i ≠ g; omega)]
      exact h.name i (by omega) hfi
  · intro i hi hfi
    by_cases e : i = k
    · subst e
      rw [← hsz]
      simp only [World.cell?, new]
      rfl
    · have := cle i (by omega) hfi
      rw [far _ (by show B + cnt S i < _; omega) (by show B + cnt S i ≠ g; omega)]
      exact h.num i (by omega) hfi

/-- The whole table and its words, read-only from here on: toks at block g, keep at block gk, the Evaluator at block ge. -/
structure Tab (w wr : World) (g gk ge B n : Nat) (S : Nat → ByteArray) : Prop where
  below : Below w.heap.size w wr
  toks : ∀ i, i < n → wr.cell? ⟨g, i, none⟩ = some (.pointer (tokP B S i))
  keep : ∀ i, i < n → wr.cell? ⟨gk, i, none⟩ = some (.pointer (tokP B S i))
  ev : wr.cell? ⟨ge, 444, none⟩ = some (.slice (some ⟨g, 0, none⟩) n n)
  name : ∀ i, i < n → (S i).toList.isEmpty = false → wr.cell? ⟨B + cnt S i, 0, none⟩ = some (.string (S i))
  num : ∀ i, i < n → (S i).toList.isEmpty = false → wr.cell? ⟨B + cnt S i, 5, none⟩ = some (.int .i64 i)

theorem Tab.drewN {w wr : World} {g gk ge B n : Nat} {S : Nat → ByteArray} (h : Tab w wr g gk ge B n S) (m : Nat) : Tab w (wr.drewN m) g gk ge B n S := ⟨below_drewN h.below m, h.toks, h.keep, h.ev, h.name, h.num⟩
theorem Tab.alloc {w wr : World} {g gk ge B n : Nat} {S : Nat → ByteArray} (h : Tab w wr g gk ge B n S) (o : Obj) : Tab w (wr.alloc o) g gk ge B n S :=
  ⟨h.below.alloc h.below.size o, fun i hi => Lib.cell?_alloc_some o (h.toks i hi), fun i hi => Lib.cell?_alloc_some o (h.keep i hi), Lib.cell?_alloc_some o h.ev, fun i hi hf => Lib.cell?_alloc_some o (h.name i hi hf), fun i hi hf => Lib.cell?_alloc_some o (h.num i hi hf)⟩

/-- 'build' with the parts' cells behind a name. -/
theorem wpList_build_as {P : Program} {ops : Array Oper} {rest : List Oper} {o : Oper} {a : Act} {w : World} {Q : Exit → Act → World → Prop} (hg : o.guard = none) (t : TypeId) (parts : Array (Nat × Operand)) (ho : o.op = .build t parts)
    (cells : Array Value) (hc : P.built t (parts.map fun (i, x) => (i, a.eval x)).toList = some cells) (h : wpList P ops Q rest (a.put o.dst (.agg cells)) w) : wpList P ops Q (o :: rest) a w :=
  wpList_build hg t parts ho (by rw [hc]; rfl) (by rw [hc]; exact h)

theorem Yba.info24 : (Yba.prog.info? 24).map (fun i => (i.zero, i.size, i.bytes)) = some (some (.pointer none), 1, 8) := by kernel_rfl
theorem Yba.size24 : (Yba.prog.info? 24).map (·.size) = some 1 := by kernel_rfl

end Go.Proofs.Ybulkefxw
