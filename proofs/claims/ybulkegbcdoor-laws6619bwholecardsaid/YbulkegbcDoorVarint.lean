/-
  The two varint readers by their contracts: ConsumeVarint (function 7), the law's own zzs6619bvarint (6); ConsumeTag (11).
-/
import Derived.Test.YbulkegbcDoorRows
import Derived.Test.YbulkegbcDoorPlain
import Derived.WalkKit
import Derived.ProofKit
import Derived.WalkSpells
import Derived.WalkLawsBesides
import Derived.Below
import Derived.WalkSmall
import Derived.BigQuiet
import Derived.Deep.QuietTactic
namespace Go.Proofs.YbulkegbcDoor
open Go.RowKit

/-- A slice of bytes: it has none, or they lie at an address. -/
def Lies (w : World) (a : Option Addr) (n : Nat) (X : Nat → Int) : Prop :=
  n = 0 ∨ ∃ b off, a = some ⟨b, off, none⟩ ∧ b < w.heap.size ∧ ∀ i, i < n → w.cell? ⟨b, off + i, none⟩ = some (.int .u8 (X i))

theorem Lies.below {w w' : World} {a : Option Addr} {n : Nat} {X : Nat → Int} (h : Lies w a n X) (hb : Below w.heap.size w w') : Lies w' a n X := by
  rcases h with h | ⟨b, off, ha, hl, hc⟩
  · exact .inl h
  · exact .inr ⟨b, off, ha, Nat.lt_of_lt_of_le hl hb.size, fun i hi => (hb.cell hl).trans (hc i hi)⟩

/-- The three sentinels that the readers hand back are errors, not nil. -/
structure Errs (w : World) : Prop where
  eof : ∃ t p, w.cell? ⟨0, 0, none⟩ = some (.iface t p)
  long : ∃ t p, w.cell? ⟨1, 0, none⟩ = some (.iface t p)
  tag : ∃ t p, w.cell? ⟨3, 0, none⟩ = some (.iface t p)

theorem tup3 {A C : Value} {x y : Int} (h : x = y) : Ending.returned (.tuple #[A, .int .i64 x, C]) = .returned (.tuple #[A, .int .i64 y, C]) := by rw [h]

set_option maxHeartbeats 1000000 in
theorem cv (a : Option Addr) (m c : Nat) (X : Nat → Int) (w : World) (hm : m ≤ 1048576) (h : Lies w a m X) (hX : ∀ i, 0 ≤ X i ∧ X i ≤ 255) (he : Errs w) :
    Calls Ybad.prog 7 #[.slice a m c] w fun e w' => (∃ l, vl X m 10 0 = some l ∧ e = .returned (.tuple #[.int .u64 (acc X l), .int .i64 l, .nilIface]) ∧ w' = w) ∨
      (vl X m 10 0 = none ∧ ∃ t p, e = .returned (.tuple #[.int .u64 0, .int .i64 0, .iface t p]) ∧ ∃ q, w' = w.drewN q) := by
  obtain ⟨t0, p0, g0⟩ := he.eof
  obtain ⟨t1, p1, g1⟩ := he.long
  clear he
  have HL : Hid (Lies w a m X) := h
  clear h
  have HX : Hid (∀ i, 0 ≤ X i ∧ X i ≤ 255) := hX
  clear hX
  go_enter Ybad.func7, Ybad.ntmps7
  go_wp2_with fail
  go_loopw [5, 6, 7] (fun v _ i wx => ∃ k : Nat, k ≤ 10 ∧ k ≤ m ∧ i = .int .i64 k ∧ v = .int .u64 (acc X k) ∧ (∀ j, j < k → 128 ≤ X j) ∧ w = wx) (fun _ _ i _ => 10 - (intOf i).toNat)
  case atStart => exact ⟨0, by omega, by omega, rfl, rfl, fun j hj => by omega, rfl⟩
  case round =>
    obtain ⟨k, hk, hkm, rfl, rfl, hall, rfl⟩ := hrel
    have HA : Hid (∀ j, j < k → 128 ≤ X j) := hall
    clear hall
    have hacc := acc_range X k
    by_cases h10 : k < 10
    · by_cases hlt : k < m
      · obtain ⟨b, off, rfl, hb, hc⟩ := HL.out.resolve_left (by omega)
        have e1 := hc k hlt
        have hxk := HX.out k
        have hne : ((k : Int) == (m : Int)) = false := beq_eq_false_iff_ne.2 (by omega)
        clear hc
        by_cases hx : X k < 128
        · go_wp2_with fail
          go_ret3
          exact .inl ⟨k + 1, vl_hit HA.out hlt h10 hx, rfl, rfl⟩
        · go_wp2_with fail
          go_roundw
          case rel => exact ⟨k + 1, by omega, by omega, by go_num, rfl, fun j hj => by
            by_cases e : j = k
            · subst e; omega
            · exact HA.out j (by omega), by first | rfl | trivial⟩
          case measure => simp [intOf]; omega
      · obtain rfl : k = m := by omega
        go_wp2_with fail
        go_quiet (fail)
        go_wp2_with fail
        go_ret3
        exact .inr ⟨vl_end HA.out (by omega), t0, p0, rfl, _, rfl⟩
    · obtain rfl : k = 10 := by omega
      go_wp2_with fail
      go_quiet (fail)
      go_wp2_with fail
      go_ret3
      exact .inr ⟨vl_over HA.out hkm, t1, p1, rfl, _, rfl⟩

set_option maxHeartbeats 1000000 in
theorem mv (a : Option Addr) (n c : Nat) (i mx : Nat) (X : Nat → Int) (w : World) (hm : n ≤ 1048576) (hi : i ≤ n) (hmx : mx ≤ 10) (h : Lies w a n X) (hX : ∀ i, 0 ≤ X i ∧ X i ≤ 255) :
    Calls Ybad.prog 6 #[.slice a n c, .int .i64 i, .int .i64 mx] w fun e w' => w' = w ∧ ((∃ l, vl (fun k => X (i + k)) (n - i) mx 0 = some l ∧ e = .returned (.tuple #[.int .u64 (acc (fun k => X (i + k)) l), .int .i64 (i + l : Nat), .bool true])) ∨
      (vl (fun k => X (i + k)) (n - i) mx 0 = none ∧ e = .returned (.tuple #[.int .u64 0, .int .i64 0, .bool false]))) := by
  have HL : Hid (Lies w a n X) := h
  clear h
  have HX : Hid (∀ i, 0 ≤ X i ∧ X i ≤ 255) := hX
  clear hX
  go_enter Ybad.func6, Ybad.ntmps6
  go_wp2_with fail
  go_loopw [9, 10, 11] (fun v j _ wx => ∃ k : Nat, k ≤ mx ∧ k ≤ n - i ∧ j = .int .i64 k ∧ v = .int .u64 (acc (fun k => X (i + k)) k) ∧ (∀ j, j < k → 128 ≤ X (i + j)) ∧ w = wx) (fun _ i _ _ => mx - (intOf i).toNat)
  case atStart => exact ⟨0, by omega, by omega, rfl, rfl, fun j hj => by omega, rfl⟩
  case round =>
    obtain ⟨k, hk, hkm, rfl, rfl, hall, rfl⟩ := hrel
    have HA : Hid (∀ j, j < k → 128 ≤ X (i + j)) := hall
    clear hall
    have hacc := acc_range (fun k => X (i + k)) k
    by_cases h10 : k < mx
    · by_cases hlt : i + k < n
      · obtain ⟨b, off, rfl, hb, hc⟩ := HL.out.resolve_left (by omega)
        have e1 := hc (i + k) hlt
        have hxk := HX.out (i + k)
        clear hc
        by_cases hx : X (i + k) < 128
        · go_wp2_with fail
          go_ret3
          exact ⟨rfl, .inl ⟨k + 1, vl_hit (X := fun k => X (i + k)) HA.out (by omega) h10 hx, tup3 (by omega)⟩⟩
        · go_wp2_with fail
          go_roundw
          case rel => exact ⟨k + 1, by omega, by omega, by go_num, rfl, fun j hj => by
            by_cases e : j = k
            · subst e; omega
            · exact HA.out j (by omega), by first | rfl | trivial⟩
          case measure => simp [intOf]; omega
      · obtain rfl : k = n - i := by omega
        go_wp2_with fail
        go_ret3
        exact ⟨rfl, .inr ⟨vl_end (X := fun k => X (i + k)) HA.out (by omega), rfl⟩⟩
    · obtain rfl : k = mx := by omega
      go_wp2_with fail
      go_ret3
      exact ⟨rfl, .inr ⟨vl_over (X := fun k => X (i + k)) HA.out hkm, rfl⟩⟩

set_option maxHeartbeats 1000000 in
/-- ConsumeTag: a varint of at most five bytes, its low 32 bits. -/
theorem ctag (a : Option Addr) (m c : Nat) (X : Nat → Int) (w : World) (hm : m ≤ 1048576) (h : Lies w a m X) (hX : ∀ i, 0 ≤ X i ∧ X i ≤ 255) (he : Errs w) :
    Calls Ybad.prog 11 #[.slice a m c] w fun e w' => (∃ l, vl X m 5 0 = some l ∧ e = .returned (.tuple #[.int .u64 (acc X l % 4294967296), .int .i64 l, .nilIface]) ∧ w' = w) ∨
      (vl X m 5 0 = none ∧ ∃ v k t p, e = .returned (.tuple #[.int .u64 v, .int .i64 k, .iface t p]) ∧ ∃ q, w' = w.drewN q) := by
  obtain ⟨t3, p3, g3⟩ := he.tag
  have HL : Hid (Lies w a m X) := h
  have HX : Hid (∀ i, 0 ≤ X i ∧ X i ≤ 255) := hX
  have HE : Hid (Errs w) := he
  clear h hX he
  go_enter Ybad.func11, Ybad.ntmps11
  go_wp2_with fail
  refine (cv a m c X w hm HL.out HX.out HE.out).mono ?_
  rintro e w1 (⟨l, hl, rfl, hw⟩ | ⟨hl, t, p, rfl, q, hw⟩)
  · have hb := vl_bound hl
    have ha := acc_range X l
    rw [hw]
    clear hw
    by_cases h5 : l ≤ 5
    · have hv : Hid (vl X m 5 0 = some l) := vl_less (g := 5) hl (by omega)
      clear hl
      go_wp2_with fail
      go_ret3
      exact .inl ⟨l, hv.out, rfl, rfl⟩
    · have hv : Hid (vl X m 5 0 = none) := by
        show vl X m 5 0 = none
        cases h5' : vl X m 5 0 with
        | none => rfl
        | some l' =>
          have h1 := vl_more (g := 5) h5'
          have h2 := vl_bound h5'
          rw [show 5 + 5 = 10 from rfl, hl] at h1
          injection h1 with h1
          omega
      clear hl
      go_wp2_with fail
      go_quiet (fail)
      go_wp2_with fail
      go_ret3
      exact .inr ⟨hv.out, _, _, _, _, rfl, _, rfl⟩
  · have hv : Hid (vl X m 5 0 = none) := by
      show vl X m 5 0 = none
      cases h5' : vl X m 5 0 with
      | none => rfl
      | some l' =>
        have h1 := vl_more (g := 5) h5'
        rw [show 5 + 5 = 10 from rfl, hl] at h1
        cases h1
    clear hl
    rw [hw]
    clear hw
    go_wp2_with fail
    go_ret3
    exact .inr ⟨hv.out, _, _, _, _, rfl, _, rfl⟩

end Go.Proofs.YbulkegbcDoor
