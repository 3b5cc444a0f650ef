/-
  THE PLAIN LAW, no Go in sight: how long a varint is, its value, how long a field is, how many fields are counted.
-/
import Derived.WalkKit
import Derived.OpenShut
namespace Go.Proofs.YbulkegbcDoor
open Go.RowKit

/-- One byte more of a varint's value, as the model's operations have it. -/
def stepV (x : Int) (k : Nat) (y : Int) : Int := bits .or .u64 x (IntKind.u64.wrap (IntKind.u64.wrap (bits .and .u8 y 127) * 2 ^ (7 * k)))
/-- The value of the first k bytes. -/
def acc (X : Nat → Int) : Nat → Int
  | 0 => 0
  | k + 1 => stepV (acc X k) k (X k)
/-- How many bytes a varint takes, k of them passed, at most f to come, m bytes there are. -/
def vl (X : Nat → Int) (m : Nat) : Nat → Nat → Option Nat
  | 0, _ => none
  | f + 1, k => if m ≤ k then none else if X k < 128 then some (k + 1) else vl X m f (k + 1)
/-- How many bytes a field of the wire type ty takes. -/
def fl (ty : Int) (X : Nat → Int) (m : Nat) : Option Nat :=
  if ty = 0 then vl X m 10 0
  else if ty = 5 then (if m < 4 then none else some 4)
  else if ty = 1 then (if m < 8 then none else some 8)
  else if ty = 2 then (match vl X m 10 0 with
    | none => none
    | some l => if ((m - l : Nat) : Int) < acc X l then none else some (l + (acc X l).toNat))
  else none
/-- The count, f rounds at most, from place i on, the tag t, c counted so far. -/
def run (X : Nat → Int) (n : Nat) (tag : Int) : Nat → Nat → Int → Int → Int
  | 0, _, _, c => c
  | f + 1, i, t, c =>
    match fl (bits .and .u64 t 7) (fun k => X (i + k)) (n - i) with
    | none => if t = tag then c + 1 else c
    | some d => if d = n - i then (if t = tag then c + 1 else c) else
      match vl (fun k => X (i + d + k)) (n - i - d) 5 0 with
      | none => if t = tag then c + 1 else c
      | some l => run X n tag f (i + d + l) (acc (fun k => X (i + d + k)) l % 4294967296) (if t = tag then c + 1 else c)

theorem vl_bound {X : Nat → Int} {m : Nat} : ∀ {f k l : Nat}, vl X m f k = some l → k < l ∧ l ≤ k + f ∧ l ≤ m
  | 0, k, l, h => by simp [vl] at h
  | f + 1, k, l, h => by
    unfold vl at h
    split at h
    · cases h
    · split at h
      · injection h with h; omega
      · have := vl_bound h; omega

theorem vl_skip {X : Nat → Int} {m : Nat} : ∀ {k F : Nat}, (∀ j, j < k → 128 ≤ X j) → k ≤ m → k ≤ F → vl X m F 0 = vl X m (F - k) k
  | 0, F, _, _, _ => by simp
  | k + 1, F, h, h1, h2 => by
    rw [vl_skip (k := k) (fun j hj => h j (by omega)) (by omega) (by omega)]
    obtain ⟨g, hg⟩ : ∃ g, F - k = g + 1 := ⟨F - k - 1, by omega⟩
    rw [hg, show F - (k + 1) = g by omega]
    have := h k (by omega)
    conv => lhs; unfold vl
    rw [if_neg (by omega), if_neg (by omega)]

theorem vl_hit {X : Nat → Int} {m k F : Nat} (h : ∀ j, j < k → 128 ≤ X j) (h1 : k < m) (h2 : k < F) (h3 : X k < 128) : vl X m F 0 = some (k + 1) := by
  rw [vl_skip h (by omega) (by omega)]
  obtain ⟨g, hg⟩ : ∃ g, F - k = g + 1 := ⟨F - k - 1, by omega⟩
  rw [hg]
  unfold vl
  rw [if_neg (by omega), if_pos h3]
theorem vl_end {X : Nat → Int} {m F : Nat} (h : ∀ j, j < m → 128 ≤ X j) (h2 : m ≤ F) : vl X m F 0 = none := by
  rw [vl_skip h (Nat.le_refl _) h2]
  cases F - m with
  | zero => rfl
  | succ g => unfold vl; rw [if_pos (Nat.le_refl _)]
theorem vl_over {X : Nat → Int} {m F : Nat} (h : ∀ j, j < F → 128 ≤ X j) (h2 : F ≤ m) : vl X m F 0 = none := by
  rw [vl_skip h h2 (Nat.le_refl _), Nat.sub_self]
  rfl

theorem vl_more {X : Nat → Int} {m : Nat} : ∀ {f g k l : Nat}, vl X m f k = some l → vl X m (f + g) k = some l
  | 0, g, k, l, h => by simp [vl] at h
  | f + 1, g, k, l, h => by
    rw [show f + 1 + g = (f + g) + 1 by omega]
    unfold vl at h ⊢
    split at h
    · cases h
    · rename_i h1
      rw [if_neg h1]
      split at h
      · rename_i h2; rw [if_pos h2]; exact h
      · rename_i h2; rw [if_neg h2]; exact vl_more h
theorem vl_less {X : Nat → Int} {m : Nat} : ∀ {f g k l : Nat}, vl X m (f + g) k = some l → l ≤ k + f → vl X m f k = some l
  | 0, g, k, l, h, hl => by have := vl_bound h; omega
  | f + 1, g, k, l, h, hl => by
    rw [show f + 1 + g = (f + g) + 1 by omega] at h
    unfold vl at h ⊢
    split at h
    · cases h
    · rename_i h1
      rw [if_neg h1]
      split at h
      · rename_i h2; rw [if_pos h2]; exact h
      · rename_i h2; rw [if_neg h2]; exact vl_less h (by omega)

theorem acc_range (X : Nat → Int) (k : Nat) : 0 ≤ acc X k ∧ acc X k ≤ 18446744073709551615 := by
  cases k with
  | zero => simp [acc]
  | succ k =>
    have : (Lit.int .u64 (acc X (k + 1))).wf = true := by
      show (Lit.int .u64 (stepV (acc X k) k (X k))).wf = true
      unfold stepV
      exact wf_bits _ _ _ _
    exact bounds_u64 this

theorem stepV_first : ∀ n : Fin 128, stepV 0 0 (n.val : Int) = n.val := by decide +kernel
theorem acc_one {X : Nat → Int} (h0 : 0 ≤ X 0) (h1 : X 0 < 128) : acc X 1 = X 0 := by
  have := stepV_first ⟨(X 0).toNat, by omega⟩
  simp only [Int.toNat_of_nonneg h0] at this
  exact this

end Go.Proofs.YbulkegbcDoor
