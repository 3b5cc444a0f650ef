/-
  The fields' readers by their contracts: ConsumeFixed32 (function 8), ConsumeFixed64 (9), ConsumeBytes (10); the library's Uint32 (12), Uint64 (13).
-/
import Derived.Test.YbulkegbcDoorVarint
import Derived.Lib.SliceRun
namespace Go.Proofs.YbulkegbcDoor
open Go.RowKit

set_option maxHeartbeats 2000000 in
theorem u32 (b off m c : Nat) (X : Nat → Int) (w : World) (hm : 4 ≤ m) (hX : ∀ i, 0 ≤ X i ∧ X i ≤ 255) (hc : ∀ i, i < m → w.cell? ⟨b, off + i, none⟩ = some (.int .u8 (X i))) :
    Calls Ybad.prog 12 #[.agg #[], .slice (some ⟨b, off, none⟩) m c] w fun e w' => (∃ v, e = .returned (.int .u32 v)) ∧ Below w.heap.size w w' := by
  have e0 : ∀ o, (w.alloc o).cell? ⟨b, off, none⟩ = some (.int .u8 (X 0)) := fun o => Lib.cell?_alloc_some o (by simpa using hc 0 (by omega))
  have e1 : ∀ o, (w.alloc o).cell? ⟨b, off + 1, none⟩ = some (.int .u8 (X 1)) := fun o => Lib.cell?_alloc_some o (hc 1 (by omega))
  have e2 : ∀ o, (w.alloc o).cell? ⟨b, off + 2, none⟩ = some (.int .u8 (X 2)) := fun o => Lib.cell?_alloc_some o (hc 2 (by omega))
  have e3 : ∀ o, (w.alloc o).cell? ⟨b, off + 3, none⟩ = some (.int .u8 (X 3)) := fun o => Lib.cell?_alloc_some o (hc 3 (by omega))
  have r0 := hX 0
  have r1 := hX 1
  have r2 := hX 2
  have r3 := hX 3
  have l0 : (0 : Int) < (m : Int) := by omega
  have l1 : (1 : Int) < (m : Int) := by omega
  have l2 : (2 : Int) < (m : Int) := by omega
  have l3 : (3 : Int) < (m : Int) := by omega
  clear hc hX
  go_enter Ybad.func12, Ybad.ntmps12
  go_wp2_with fail
  go_quiet (fail)
  go_wp2_with fail
  go_ret
  exact ⟨⟨_, rfl⟩, below_drewN ((Below.refl _ _).alloc (Nat.le_refl _) _) _⟩

set_option maxHeartbeats 2000000 in
theorem u64 (b off m c : Nat) (X : Nat → Int) (w : World) (hm : 8 ≤ m) (hX : ∀ i, 0 ≤ X i ∧ X i ≤ 255) (hc : ∀ i, i < m → w.cell? ⟨b, off + i, none⟩ = some (.int .u8 (X i))) :
    Calls Ybad.prog 13 #[.agg #[], .slice (some ⟨b, off, none⟩) m c] w fun e w' => (∃ v, e = .returned (.int .u64 v)) ∧ Below w.heap.size w w' := by
  have e0 : ∀ o, (w.alloc o).cell? ⟨b, off, none⟩ = some (.int .u8 (X 0)) := fun o => Lib.cell?_alloc_some o (by simpa using hc 0 (by omega))
  have e1 : ∀ o, (w.alloc o).cell? ⟨b, off + 1, none⟩ = some (.int .u8 (X 1)) := fun o => Lib.cell?_alloc_some o (hc 1 (by omega))
  have e2 : ∀ o, (w.alloc o).cell? ⟨b, off + 2, none⟩ = some (.int .u8 (X 2)) := fun o => Lib.cell?_alloc_some o (hc 2 (by omega))
  have e3 : ∀ o, (w.alloc o).cell? ⟨b, off + 3, none⟩ = some (.int .u8 (X 3)) := fun o => Lib.cell?_alloc_some o (hc 3 (by omega))
  have e4 : ∀ o, (w.alloc o).cell? ⟨b, off + 4, none⟩ = some (.int .u8 (X 4)) := fun o => Lib.cell?_alloc_some o (hc 4 (by omega))
  have e5 : ∀ o, (w.alloc o).cell? ⟨b, off + 5, none⟩ = some (.int .u8 (X 5)) := fun o => Lib.cell?_alloc_some o (hc 5 (by omega))
  have e6 : ∀ o, (w.alloc o).cell? ⟨b, off + 6, none⟩ = some (.int .u8 (X 6)) := fun o => Lib.cell?_alloc_some o (hc 6 (by omega))
  have e7 : ∀ o, (w.alloc o).cell? ⟨b, off + 7, none⟩ = some (.int .u8 (X 7)) := fun o => Lib.cell?_alloc_some o (hc 7 (by omega))
  have r0 := hX 0
  have r1 := hX 1
  have r2 := hX 2
  have r3 := hX 3
  have r4 := hX 4
  have r5 := hX 5
  have r6 := hX 6
  have r7 := hX 7
  have l0 : (0 : Int) < (m : Int) := by omega
  have l1 : (1 : Int) < (m : Int) := by omega
  have l2 : (2 : Int) < (m : Int) := by omega
  have l3 : (3 : Int) < (m : Int) := by omega
  have l4 : (4 : Int) < (m : Int) := by omega
  have l5 : (5 : Int) < (m : Int) := by omega
  have l6 : (6 : Int) < (m : Int) := by omega
  have l7 : (7 : Int) < (m : Int) := by omega
  clear hc hX
  go_enter Ybad.func13, Ybad.ntmps13
  go_wp2_with fail
  go_quiet (fail)
  go_wp2_with fail
  go_ret
  exact ⟨⟨_, rfl⟩, below_drewN ((Below.refl _ _).alloc (Nat.le_refl _) _) _⟩

set_option maxHeartbeats 1000000 in
theorem cf32 (a : Option Addr) (m c : Nat) (X : Nat → Int) (w : World) (hm : m ≤ 1048576) (h : Lies w a m X) (hX : ∀ i, 0 ≤ X i ∧ X i ≤ 255) (he : Errs w) :
    Calls Ybad.prog 8 #[.slice a m c] w fun e w' => ((4 ≤ m ∧ ∃ v, e = .returned (.tuple #[.int .u32 v, .int .i64 4, .nilIface])) ∨ (m < 4 ∧ ∃ v t p, e = .returned (.tuple #[.int .u32 v, .int .i64 0, .iface t p]))) ∧ Below w.heap.size w w' := by
  obtain ⟨t0, p0, g0⟩ := he.eof
  clear he
  have HL : Hid (Lies w a m X) := h
  have HX : Hid (∀ i, 0 ≤ X i ∧ X i ≤ 255) := hX
  clear h hX
  by_cases hk : m < 4
  · go_enter Ybad.func8, Ybad.ntmps8
    go_wp2_with fail
    go_quiet (fail)
    go_wp2_with fail
    go_ret3
    exact ⟨.inr ⟨hk, _, _, _, rfl⟩, below_drewN (Below.refl _ _) _⟩
  · obtain ⟨b, off, rfl, hb, hc⟩ := HL.out.resolve_left (by omega)
    have HC : Hid (∀ i, i < m → w.cell? ⟨b, off + i, none⟩ = some (.int .u8 (X i))) := hc
    clear hc HL
    go_enter Ybad.func8, Ybad.ntmps8
    go_wp2_with fail
    refine (u32 b off m c X w (by omega) HX.out HC.out).mono ?_
    rintro e w1 ⟨⟨v, rfl⟩, hbel⟩
    go_wp2_with fail
    go_ret3
    exact ⟨.inl ⟨by omega, v, rfl⟩, hbel⟩

set_option maxHeartbeats 1000000 in
theorem cf64 (a : Option Addr) (m c : Nat) (X : Nat → Int) (w : World) (hm : m ≤ 1048576) (h : Lies w a m X) (hX : ∀ i, 0 ≤ X i ∧ X i ≤ 255) (he : Errs w) :
    Calls Ybad.prog 9 #[.slice a m c] w fun e w' => ((8 ≤ m ∧ ∃ v, e = .returned (.tuple #[.int .u64 v, .int .i64 8, .nilIface])) ∨ (m < 8 ∧ ∃ v t p, e = .returned (.tuple #[.int .u64 v, .int .i64 0, .iface t p]))) ∧ Below w.heap.size w w' := by
  obtain ⟨t0, p0, g0⟩ := he.eof
  clear he
  have HL : Hid (Lies w a m X) := h
  have HX : Hid (∀ i, 0 ≤ X i ∧ X i ≤ 255) := hX
  clear h hX
  by_cases hk : m < 8
  · go_enter Ybad.func9, Ybad.ntmps9
    go_wp2_with fail
    go_quiet (fail)
    go_wp2_with fail
    go_ret3
    exact ⟨.inr ⟨hk, _, _, _, rfl⟩, below_drewN (Below.refl _ _) _⟩
  · obtain ⟨b, off, rfl, hb, hc⟩ := HL.out.resolve_left (by omega)
    have HC : Hid (∀ i, i < m → w.cell? ⟨b, off + i, none⟩ = some (.int .u8 (X i))) := hc
    clear hc HL
    go_enter Ybad.func9, Ybad.ntmps9
    go_wp2_with fail
    refine (u64 b off m c X w (by omega) HX.out HC.out).mono ?_
    rintro e w1 ⟨⟨v, rfl⟩, hbel⟩
    go_wp2_with fail
    go_ret3
    exact ⟨.inl ⟨by omega, v, rfl⟩, hbel⟩

theorem fl2_none {X : Nat → Int} {m : Nat} (h : vl X m 10 0 = none) : fl 2 X m = none := by simp [fl, h]
theorem fl2_big {X : Nat → Int} {m l : Nat} (h : vl X m 10 0 = some l) (h2 : ((m - l : Nat) : Int) < acc X l) : fl 2 X m = none := by
  simp only [fl, h]; simp [h2]
theorem fl2_some {X : Nat → Int} {m l : Nat} (h : vl X m 10 0 = some l) (h2 : ¬ ((m - l : Nat) : Int) < acc X l) : fl 2 X m = some (l + (acc X l).toNat) := by
  simp only [fl, h]; simp [h2]

/-- What ConsumeBytes gives. -/
def CbPost (X : Nat → Int) (m : Nat) (w : World) (e : Ending) (w' : World) : Prop :=
  (∃ d sv, fl 2 X m = some d ∧ e = .returned (.tuple #[sv, .int .i64 (d : Nat), .nilIface]) ∧ w' = w) ∨
      (fl 2 X m = none ∧ ∃ sv t p, e = .returned (.tuple #[sv, .int .i64 0, .iface t p]) ∧ ∃ q, w' = w.drewN q)
theorem CbPost.ok {X : Nat → Int} {m : Nat} {w : World} {sv : Value} {d : Nat} {x : Int} (h : fl 2 X m = some d) (hx : x = d) : CbPost X m w (.returned (.tuple #[sv, .int .i64 x, .nilIface])) w :=
  .inl ⟨d, sv, h, by rw [hx], rfl⟩
theorem CbPost.no {X : Nat → Int} {m : Nat} {w w' : World} {sv p : Value} {t q : Nat} (h : fl 2 X m = none) (hw : w' = w.drewN q) : CbPost X m w (.returned (.tuple #[sv, .int .i64 0, .iface t p])) w' :=
  .inr ⟨h, sv, t, p, rfl, q, hw⟩

set_option maxHeartbeats 2000000 in
theorem cbytes (a : Option Addr) (m c : Nat) (X : Nat → Int) (w : World) (hm : m ≤ 1048576) (hmc : m ≤ c) (h : Lies w a m X) (hX : ∀ i, 0 ≤ X i ∧ X i ≤ 255) (he : Errs w) :
    Calls Ybad.prog 10 #[.slice a m c] w fun e w' => CbPost X m w e w' := by
  obtain ⟨t0, p0, g0⟩ := he.eof
  have HL : Hid (Lies w a m X) := h
  have HX : Hid (∀ i, 0 ≤ X i ∧ X i ≤ 255) := hX
  have HE : Hid (Errs w) := he
  clear h hX he
  have hx0 := HX.out 0
  by_cases hfast : 0 < m ∧ X 0 < 128
  · obtain ⟨h0, h1⟩ := hfast
    obtain ⟨b, off, rfl, hb, hc⟩ := HL.out.resolve_left (by omega)
    have e0 : w.cell? ⟨b, off, none⟩ = some (.int .u8 (X 0)) := by simpa using hc 0 h0
    have hv : vl X m 10 0 = some 1 := vl_hit (k := 0) (fun j hj => by omega) h0 (by omega) h1
    have ha : acc X 1 = X 0 := acc_one hx0.1 h1
    clear hc HL HX HE
    by_cases hbig : (m : Int) < 1 + X 0
    · have hf : Hid (fl 2 X m = none) := fl2_big hv (by rw [ha]; omega)
      clear hv ha
      go_enter Ybad.func10, Ybad.ntmps10
      go_wp2_with fail
      go_quiet (fail)
      go_wp2_with fail
      go_ret3
      exact CbPost.no hf.out rfl
    · have hf : Hid (fl 2 X m = some (1 + (X 0).toNat)) := by
        have := fl2_some hv (by rw [ha]; omega)
        rw [ha] at this
        exact this
      clear hv ha
      have hlc : 1 + X 0 ≤ (c : Int) := by omega
      go_enter Ybad.func10, Ybad.ntmps10
      go_wp2_with fail
      all_goals go_ret3
      all_goals exact CbPost.ok hf.out (by omega)
  · rcases Nat.eq_zero_or_pos m with h0 | h0
    · subst h0
      clear hfast
      go_enter Ybad.func10, Ybad.ntmps10
      go_wp2_with fail
      refine (cv a 0 c X w hm HL.out HX.out HE.out).mono ?_
      rintro e w1 (⟨l, hl, rfl, hw⟩ | ⟨hl, t, p, rfl, q, hw⟩)
      · have := vl_bound hl
        omega
      · have hf : Hid (fl 2 X 0 = none) := fl2_none hl
        rw [hw]
        clear hw hl
        go_wp2_with fail
        go_ret3
        exact CbPost.no hf.out rfl
    · have h1 : ¬ X 0 < 128 := fun hx => hfast ⟨h0, hx⟩
      obtain ⟨b, off, rfl, hb, hc⟩ := HL.out.resolve_left (by omega)
      have e0 : w.cell? ⟨b, off, none⟩ = some (.int .u8 (X 0)) := by simpa using hc 0 h0
      clear hc hfast
      go_enter Ybad.func10, Ybad.ntmps10
      go_wp2_with fail
      refine (cv _ m c X w hm HL.out HX.out HE.out).mono ?_
      rintro e w1 (⟨l, hl, rfl, hw⟩ | ⟨hl, t, p, rfl, q, hw⟩)
      · have hb2 := vl_bound hl
        have ha := acc_range X l
        rw [hw]
        clear hw
        by_cases hbig : (m : Int) - (l : Int) < acc X l
        · have hf : Hid (fl 2 X m = none) := fl2_big hl (by omega)
          clear hl
          go_wp2_with fail
          go_quiet (fail)
          go_wp2_with fail
          go_ret3
          exact CbPost.no hf.out rfl
        · have hf : Hid (fl 2 X m = some (l + (acc X l).toNat)) := fl2_some hl (by omega)
          clear hl
          have hlc : (l : Int) + acc X l ≤ (c : Int) := by omega
          go_wp2_with fail
          all_goals go_ret3
          all_goals exact CbPost.ok hf.out (by omega)
      · have hf : Hid (fl 2 X m = none) := fl2_none hl
        rw [hw]
        clear hw hl
        go_wp2_with fail
        go_ret3
        exact CbPost.no hf.out rfl

end Go.Proofs.YbulkegbcDoor
