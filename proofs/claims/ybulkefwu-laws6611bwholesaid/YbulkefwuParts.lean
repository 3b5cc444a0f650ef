/-
  What the walk of LawS6611BWhole carries: the world in which 'in' and its clone lie ('Rd'), and the plain law: what the law's own loop says of the suffix is what cutSuffix's comparison says ('endsB').
-/
import Derived.Test.YbulkefwuCallees
import Derived.WalkSmall
namespace Go.Proofs.Ybulkefwu
open Go.RowKit Go.Lib

/-- 'in' lies at block g, its clone at block g2: n bytes each, the numbers xs; of what was there before the call nothing has turned. -/
structure Rd (w wr : World) (g g2 n : Nat) (xs : List Int) : Prop where
  below : Below w.heap.size w wr
  c1 : ∀ i, i < n → wr.cell? ⟨g, i, none⟩ = some (.int .u8 (xs.getD i 0))
  c2 : ∀ i, i < n → wr.cell? ⟨g2, i, none⟩ = some (.int .u8 (xs.getD i 0))

theorem Rd.drew {w wr : World} {g g2 n : Nat} {xs : List Int} (h : Rd w wr g g2 n xs) : Rd w wr.drew g g2 n xs := ⟨h.below.drew, h.c1, h.c2⟩
theorem Rd.drewN {w wr : World} {g g2 n : Nat} {xs : List Int} (h : Rd w wr g g2 n xs) (k : Nat) : Rd w (wr.drewN k) g g2 n xs := ⟨below_drewN h.below k, h.c1, h.c2⟩

/-- Do the n numbers xs end with the bytes of s? -/
def endsB (xs : List Int) (n : Nat) (s : ByteArray) : Bool := decide (s.size ≤ n) && ((strOfNums (xs.drop (n - s.size))).toList == s.toList)

theorem endsB_short {xs : List Int} {n : Nat} {s : ByteArray} (h : n < s.size) : endsB xs n s = false := by
  simp [endsB]; omega

theorem strOfNums_toList (xs : List Int) : (strOfNums xs).toList = xs.map fun n => UInt8.ofNat n.toNat := by
  rw [ByteArray.toList_eq]; rfl

theorem endsB_true {xs : List Int} {n : Nat} {s : ByteArray} (hx : xs.length = n) (hn : s.size ≤ n)
    (h : ∀ i (hi : i < s.size), xs.getD (n - s.size + i) 0 = ((s[i]'hi).toNat : Int)) : endsB xs n s = true := by
  have e : (strOfNums (xs.drop (n - s.size))).toList = s.toList := by
    rw [strOfNums_toList, ByteArray.toList_eq]
    apply List.ext_getElem
    · rw [← Lib.size_eq]; simp; omega
    · intro i h1 h2
      have hi : i < s.size := by rw [Lib.size_eq]; exact h2
      have hh := h i hi
      have hl : n - s.size + i < xs.length := by omega
      simp only [List.getD, List.getElem?_eq_getElem hl, Option.getD_some] at hh
      simp only [List.getElem_map, List.getElem_drop, hh]
      simp
      rfl
  simp [endsB, hn, e]

theorem endsB_false {xs : List Int} {n : Nat} {s : ByteArray} (hx : xs.length = n) (hn : s.size ≤ n) (hr : ∀ x ∈ xs, 0 ≤ x ∧ x ≤ 255)
    (i : Nat) (hi : i < s.size) (h : xs.getD (n - s.size + i) 0 ≠ ((s[i]'hi).toNat : Int)) : endsB xs n s = false := by
  have hl : n - s.size + i < xs.length := by omega
  have hne : (strOfNums (xs.drop (n - s.size))).toList ≠ s.toList := by
    intro e
    rw [strOfNums_toList, ByteArray.toList_eq] at e
    have h2 : i < s.data.toList.length := by rw [← Lib.size_eq]; exact hi
    have e2 := congrArg (fun l => l[i]?) e
    simp only [List.getElem?_map, List.getElem?_drop, List.getElem?_eq_getElem hl, List.getElem?_eq_getElem h2, Option.map_some, Option.some.injEq] at e2
    apply h
    simp only [List.getD, List.getElem?_eq_getElem hl, Option.getD_some]
    have hb := hr _ (List.getElem_mem hl)
    have e3 := congrArg UInt8.toNat e2
    have e4 : s.data.toList[i] = s[i]'hi := rfl
    rw [e4] at e3
    rw [← e3, UInt8.toNat_ofNat']
    omega
  simp [endsB, hne]

/-- cutSuffix of a slice that is not nil. -/
theorem cut_any (g n c : Nat) (xs : List Int) (s : ByteArray) (w : World) (hx : xs.length = n) (hnc : n ≤ c) (hb : n ≤ 4194304) (hc : ∀ i, i < n → w.cell? ⟨g, i, none⟩ = some (.int .u8 (xs.getD i 0))) :
    Calls Yba.prog 5 #[.slice (some ⟨g, 0, none⟩) n c, .string s] w fun e w' => e = .returned (.tuple #[.slice (some ⟨g, 0, none⟩) (if endsB xs n s then n - s.size else n) c, .bool (endsB xs n s)]) ∧ w' = w := by
  by_cases h : n < s.size
  · rw [endsB_short h]
    exact cut_short _ n c s w h
  · have e : endsB xs n s = ((strOfNums (xs.drop (n - s.size))).toList == s.toList) := by simp [endsB]; omega
    exact cut_at g 0 n c xs s w hx hnc (by omega) hb (fun i hi => by rw [Nat.zero_add]; exact hc i hi) _ e.symm

end Go.Proofs.Ybulkefwu
