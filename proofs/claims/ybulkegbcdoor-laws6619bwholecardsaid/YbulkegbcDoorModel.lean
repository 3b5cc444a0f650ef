/-
  The law's own zzs6619bmodel (function 4) computes 'run'.
-/
import Derived.Test.YbulkegbcDoorCount
namespace Go.Proofs.YbulkegbcDoor
open Go.RowKit

theorem mv10 (a : Option Addr) (n c : Nat) (i : Nat) (X : Nat → Int) (w : World) (hm : n ≤ 1048576) (hi : i ≤ n) (h : Lies w a n X) (hX : ∀ i, 0 ≤ X i ∧ X i ≤ 255) :
    Calls Ybad.prog 6 #[.slice a n c, .int .i64 i, .int .i64 10] w fun e w' => w' = w ∧ ((∃ l, vl (fun k => X (i + k)) (n - i) 10 0 = some l ∧ e = .returned (.tuple #[.int .u64 (acc (fun k => X (i + k)) l), .int .i64 (i + l : Nat), .bool true])) ∨
      (vl (fun k => X (i + k)) (n - i) 10 0 = none ∧ e = .returned (.tuple #[.int .u64 0, .int .i64 0, .bool false]))) :=
  mv a n c i 10 X w hm hi (by omega) h hX
theorem mv5 (a : Option Addr) (n c : Nat) (i : Nat) (X : Nat → Int) (w : World) (hm : n ≤ 1048576) (hi : i ≤ n) (h : Lies w a n X) (hX : ∀ i, 0 ≤ X i ∧ X i ≤ 255) :
    Calls Ybad.prog 6 #[.slice a n c, .int .i64 i, .int .i64 5] w fun e w' => w' = w ∧ ((∃ l, vl (fun k => X (i + k)) (n - i) 5 0 = some l ∧ e = .returned (.tuple #[.int .u64 (acc (fun k => X (i + k)) l), .int .i64 (i + l : Nat), .bool true])) ∨
      (vl (fun k => X (i + k)) (n - i) 5 0 = none ∧ e = .returned (.tuple #[.int .u64 0, .int .i64 0, .bool false]))) :=
  mv a n c i 5 X w hm hi (by omega) h hX

set_option maxHeartbeats 8000000 in
set_option maxRecDepth 100000 in
theorem model (a : Option Addr) (n c0 : Nat) (tag : Int) (X : Nat → Int) (w : World) (R : Int) (hR : run X n tag (n + 1) 0 tag 0 = R) (hn : n ≤ 1048576) (h0 : 0 ≤ tag) (h1 : tag ≤ 18446744073709551615) (h : Lies w a n X) (hX : ∀ i, 0 ≤ X i ∧ X i ≤ 255) :
    Calls Ybad.prog 4 #[.slice a n c0, .int .u64 tag] w fun e w' => e = .returned (.int .i64 R) ∧ w' = w := by
  have HL : Hid (Lies w a n X) := h
  have HX : Hid (∀ i, 0 ≤ X i ∧ X i ≤ 255) := hX
  have HR : Hid (run X n tag (n + 1) 0 tag 0 = R) := hR
  clear h hX hR
  go_enter Ybad.func4, Ybad.ntmps4
  go_wp2_with fail
  go_loopg [5, 6, 7] (n + 1) (fun f s5 s6 s7 wx => ∃ (i : Nat) (t c : Int), s5 = .int .i64 c ∧ s6 = .int .u64 t ∧ s7 = .int .i64 i ∧ i ≤ n ∧ n - i < f ∧ Hid (run X n tag f i t c = R) ∧ 0 ≤ c ∧ c ≤ i ∧ 0 ≤ t ∧ t ≤ 18446744073709551615 ∧ wx = w)
  case atStart => exact ⟨0, tag, 0, rfl, rfl, rfl, by omega, by omega, HR.out, by omega, by omega, h0, h1, rfl⟩
  case round =>
    obtain ⟨i, t, c, rfl, rfl, rfl, hin, hfu, hrun0, hc0, hc1, ht0, ht1, rfl⟩ := hrel
    obtain ⟨f, hgf⟩ : ∃ f, gk = f + 1 := ⟨gk - 1, by omega⟩
    have hrun : Hid (run X n tag (f + 1) i t c = R) := by rw [← hgf]; exact hrun0
    have hgk : f < gk := by omega
    have hfu' : n - i ≤ f := by omega
    obtain ⟨m, hmi⟩ : ∃ m : Nat, Hid (m = n - i) := ⟨n - i, rfl⟩
    have hmn : m ≤ n := by have := hmi.out; omega
    clear hrun0 hgf hfu HR
    have hcb := cnt1_bound t tag c
    go_upto_if 24 with fail
    go_cut [5] from 18 to 105 (fun v wx => v = .int .i64 (cnt1 t tag c) ∧ wr = wx)
    case first =>
      as_aux_lemma =>
      by_cases ht : t = tag
      · have hb1 : (t == tag) = true := beq_iff_eq.2 ht
        have hcc : Hid (c + 1 = cnt1 t tag c) := by simp [Hid, cnt1, ht]
        clear ht
        go_wp2_with fail
        go_meet
        case rel => exact ⟨by rw [hcc.out], rfl⟩
      · have hb1 : (t == tag) = false := beq_eq_false_iff_ne.2 ht
        have hcc : Hid (c = cnt1 t tag c) := by simp [Hid, cnt1, ht]
        clear ht
        go_wp2_with fail
        go_meet
        case rel => exact ⟨by rw [← hcc.out], rfl⟩
    case rest =>
    obtain ⟨rfl, rfl⟩ := hcut
    have hty := and7 ht0 ht1
    have hcases : bits .and .u64 t 7 = 0 ∨ bits .and .u64 t 7 = 1 ∨ bits .and .u64 t 7 = 2 ∨ bits .and .u64 t 7 = 5 ∨ bits .and .u64 t 7 = 3 ∨ bits .and .u64 t 7 = 4 ∨ bits .and .u64 t 7 = 6 ∨ bits .and .u64 t 7 = 7 := by omega
    clear hty
    rcases hcases with hty | hty | hty | hty | hty | hty | hty | hty
    · as_aux_lemma =>
      have HF : Hid (∀ d, vl (fun k => X (i + k)) (n - i) 10 0 = d → fl (bits .and .u64 t 7) (fun k => X (i + k)) m = d) := fun d hd => by rw [hty, ← hd, hmi.out]; rfl
      go_wp2_with fail
      refine (mv10 a n c0 i X wr hn hin HL.out HX.out).mono ?_
      rintro e w1 ⟨hw, ⟨d, hl, rfl⟩ | ⟨hl, rfl⟩⟩
      · have hfl : Hid (fl (bits .and .u64 t 7) (fun k => X (i + k)) m = some d) := HF.out _ hl
        have hdb := fl_bound hfl.out
        rw [hw]
        clear hw hl HF hty
        by_cases hdm : d = m
        · have hR : Hid (cnt1 t tag c = R) := by rw [← run_full hmi.out hfl.out hdm]; exact hrun.out
          have hdm1 : (((i + d : Nat) : Int) == (n : Int)) = true := beq_iff_eq.2 (by have := hmi.out; omega)
          clear hfl hrun hmi
          generalize hid : i + d = i2 at *
          have hid' := hid
          clear hid
          go_wp2_with fail
          go_ret
          exact ⟨ret_int hR.out, rfl⟩
        · have hdm1 : (((i + d : Nat) : Int) == (n : Int)) = false := beq_eq_false_iff_ne.2 (by have := hmi.out; omega)
          have hi2 : i + d ≤ n := by have := hmi.out; omega
          have HRn : Hid (∀ l, vl (fun k => X (i + d + k)) (n - (i + d)) 5 0 = some l → run X n tag f (i + d + l) (acc (fun k => X (i + d + k)) l % 4294967296) (cnt1 t tag c) = R) := fun l hl => by
            rw [← run_next hmi.out hfl.out hdm (by rw [← hl, show n - (i + d) = m - d by have := hmi.out; omega])]; exact hrun.out
          have HRo : Hid (vl (fun k => X (i + d + k)) (n - (i + d)) 5 0 = none → cnt1 t tag c = R) := fun hl => by
            rw [← run_notag hmi.out hfl.out hdm (by rw [← hl, show n - (i + d) = m - d by have := hmi.out; omega])]; exact hrun.out
          have hfu2 : Hid (∀ l, 0 < l → l ≤ n - (i + d) → n - (i + d + l) < f ∧ cnt1 t tag c ≤ ((i + d + l : Nat) : Int)) := fun l hl1 hl2 => by have := hmi.out; omega
          clear hfl hrun hmi hdm
          generalize i + d = i2 at *
          go_wp2_with fail
          refine (mv5 a n c0 i2 X wr hn hi2 HL.out HX.out).mono ?_
          rintro e w2 ⟨hw, ⟨l, hl, rfl⟩ | ⟨hl, rfl⟩⟩
          · have hR : Hid (run X n tag f (i2 + l) (acc (fun k => X (i2 + k)) l % 4294967296) (cnt1 t tag c) = R) := HRn.out l hl
            have hlb := vl_bound hl
            have har := acc_range (fun k => X (i2 + k)) l
            have hfu3 := hfu2.out l (by omega) (by omega)
            rw [hw]
            clear hw hl HRn HRo hfu2
            go_wp2_with fail
            go_roundg f
            case measure => omega
            case rel => exact ⟨i2 + l, _, _, rfl, rfl, rfl, by omega, by omega, hR, by omega, by omega, by omega, by omega, by first | rfl | trivial⟩
          · have hR : Hid (cnt1 t tag c = R) := HRo.out hl
            rw [hw]
            clear hw hl HRn HRo hfu2
            go_wp2_with fail
            go_ret
            exact ⟨ret_int hR.out, rfl⟩
      · have hfl : Hid (fl (bits .and .u64 t 7) (fun k => X (i + k)) m = none) := HF.out _ hl
        rw [hw]
        clear hw hl HF hty
        have hR : Hid (cnt1 t tag c = R) := by rw [← run_none hmi.out hfl.out]; exact hrun.out
        clear hfl hrun hmi
        go_wp2_with fail
        go_ret
        exact ⟨ret_int hR.out, rfl⟩
    · as_aux_lemma =>
      by_cases hk : n - i < 8
      · have hfl : Hid (fl (bits .and .u64 t 7) (fun k => X (i + k)) m = none) := by
          rw [hty, hmi.out]; simp [Hid, fl]; omega
        have hk1 : (n : Int) - (i : Int) < 8 := by omega
        have hR : Hid (cnt1 t tag c = R) := by rw [← run_none hmi.out hfl.out]; exact hrun.out
        clear hfl hrun hmi
        go_wp2_with fail
        go_ret
        exact ⟨ret_int hR.out, rfl⟩
      · have hfl0 : fl (bits .and .u64 t 7) (fun k => X (i + k)) m = some 8 := by
          rw [hty, hmi.out]; simp [fl]; omega
        have hk1 : ¬ (n : Int) - (i : Int) < 8 := by omega
        obtain ⟨d, hd⟩ : ∃ d : Nat, Hid (d = 8) := ⟨8, rfl⟩
        have hfl : Hid (fl (bits .and .u64 t 7) (fun k => X (i + k)) m = some d) := by rw [hd.out]; exact hfl0
        have hdb := fl_bound hfl.out
        go_upto_region 29 with fail
        rw [show (i : Int) + 8 = ((i + d : Nat) : Int) by rw [hd.out]; omega]
        clear hty hfl0 hd hk hk1
        by_cases hdm : d = m
        · have hR : Hid (cnt1 t tag c = R) := by rw [← run_full hmi.out hfl.out hdm]; exact hrun.out
          have hdm1 : (((i + d : Nat) : Int) == (n : Int)) = true := beq_iff_eq.2 (by have := hmi.out; omega)
          clear hfl hrun hmi
          generalize hid : i + d = i2 at *
          have hid' := hid
          clear hid
          go_wp2_with fail
          go_ret
          exact ⟨ret_int hR.out, rfl⟩
        · have hdm1 : (((i + d : Nat) : Int) == (n : Int)) = false := beq_eq_false_iff_ne.2 (by have := hmi.out; omega)
          have hi2 : i + d ≤ n := by have := hmi.out; omega
          have HRn : Hid (∀ l, vl (fun k => X (i + d + k)) (n - (i + d)) 5 0 = some l → run X n tag f (i + d + l) (acc (fun k => X (i + d + k)) l % 4294967296) (cnt1 t tag c) = R) := fun l hl => by
            rw [← run_next hmi.out hfl.out hdm (by rw [← hl, show n - (i + d) = m - d by have := hmi.out; omega])]; exact hrun.out
          have HRo : Hid (vl (fun k => X (i + d + k)) (n - (i + d)) 5 0 = none → cnt1 t tag c = R) := fun hl => by
            rw [← run_notag hmi.out hfl.out hdm (by rw [← hl, show n - (i + d) = m - d by have := hmi.out; omega])]; exact hrun.out
          have hfu2 : Hid (∀ l, 0 < l → l ≤ n - (i + d) → n - (i + d + l) < f ∧ cnt1 t tag c ≤ ((i + d + l : Nat) : Int)) := fun l hl1 hl2 => by have := hmi.out; omega
          clear hfl hrun hmi hdm
          generalize i + d = i2 at *
          go_wp2_with fail
          refine (mv5 a n c0 i2 X wr hn hi2 HL.out HX.out).mono ?_
          rintro e w2 ⟨hw, ⟨l, hl, rfl⟩ | ⟨hl, rfl⟩⟩
          · have hR : Hid (run X n tag f (i2 + l) (acc (fun k => X (i2 + k)) l % 4294967296) (cnt1 t tag c) = R) := HRn.out l hl
            have hlb := vl_bound hl
            have har := acc_range (fun k => X (i2 + k)) l
            have hfu3 := hfu2.out l (by omega) (by omega)
            rw [hw]
            clear hw hl HRn HRo hfu2
            go_wp2_with fail
            go_roundg f
            case measure => omega
            case rel => exact ⟨i2 + l, _, _, rfl, rfl, rfl, by omega, by omega, hR, by omega, by omega, by omega, by omega, by first | rfl | trivial⟩
          · have hR : Hid (cnt1 t tag c = R) := HRo.out hl
            rw [hw]
            clear hw hl HRn HRo hfu2
            go_wp2_with fail
            go_ret
            exact ⟨ret_int hR.out, rfl⟩
    · as_aux_lemma =>
      go_wp2_with fail
      refine (mv10 a n c0 i X wr hn hin HL.out HX.out).mono ?_
      rintro e w1 ⟨hw, ⟨l0, hl, rfl⟩ | ⟨hl, rfl⟩⟩
      · have hlb0 := vl_bound hl
        have har0 := acc_range (fun k => X (i + k)) l0
        have hl' : vl (fun k => X (i + k)) m 10 0 = some l0 := by rw [← hl, hmi.out]
        rw [hw]
        clear hw
        by_cases hbig : (n : Int) - ((i + l0 : Nat) : Int) < acc (fun k => X (i + k)) l0
        · have hfl : Hid (fl (bits .and .u64 t 7) (fun k => X (i + k)) m = none) := by
            rw [hty]; exact fl2_big hl' (by have := hmi.out; omega)
          have hz : 0 ≤ (n : Int) - ((i + l0 : Nat) : Int) := by omega
          clear hl hl'
          generalize i + l0 = j0 at *
          have hR : Hid (cnt1 t tag c = R) := by rw [← run_none hmi.out hfl.out]; exact hrun.out
          clear hfl hrun hmi
          go_wp2_with fail
          go_ret
          exact ⟨ret_int hR.out, rfl⟩
        · have hfl0 : fl (bits .and .u64 t 7) (fun k => X (i + k)) m = some (l0 + (acc (fun k => X (i + k)) l0).toNat) := by
            rw [hty]; exact fl2_some hl' (by have := hmi.out; omega)
          obtain ⟨d, hd⟩ : ∃ d : Nat, Hid (d = l0 + (acc (fun k => X (i + k)) l0).toNat) := ⟨_, rfl⟩
          have hfl : Hid (fl (bits .and .u64 t 7) (fun k => X (i + k)) m = some d) := by rw [hd.out]; exact hfl0
          have hdb := fl_bound hfl.out
          have hz : 0 ≤ (n : Int) - ((i + l0 : Nat) : Int) := by omega
          have hzz : Hid (((i + l0 : Nat) : Int) + acc (fun k => X (i + k)) l0 = ((i + d : Nat) : Int)) := by
            show ((i + l0 : Nat) : Int) + acc (fun k => X (i + k)) l0 = ((i + d : Nat) : Int)
            have := hd.out; omega
          have hjn : i + l0 ≤ n := by omega
          clear hl hl' hfl0 hd hty
          generalize hj : i + l0 = j0 at *
          have hj' : Hid (i + l0 = j0) := hj
          clear hj hlb0
          generalize acc (fun k => X (i + k)) l0 = av at *
          go_upto_region 29 with fail
          rw [hzz.out]
          clear hbig hz hzz har0 hj' hjn
          by_cases hdm : d = m
          · have hR : Hid (cnt1 t tag c = R) := by rw [← run_full hmi.out hfl.out hdm]; exact hrun.out
            have hdm1 : (((i + d : Nat) : Int) == (n : Int)) = true := beq_iff_eq.2 (by have := hmi.out; omega)
            clear hfl hrun hmi
            generalize hid : i + d = i2 at *
            have hid' := hid
            clear hid
            go_wp2_with fail
            go_ret
            exact ⟨ret_int hR.out, rfl⟩
          · have hdm1 : (((i + d : Nat) : Int) == (n : Int)) = false := beq_eq_false_iff_ne.2 (by have := hmi.out; omega)
            have hi2 : i + d ≤ n := by have := hmi.out; omega
            have HRn : Hid (∀ l, vl (fun k => X (i + d + k)) (n - (i + d)) 5 0 = some l → run X n tag f (i + d + l) (acc (fun k => X (i + d + k)) l % 4294967296) (cnt1 t tag c) = R) := fun l hl => by
              rw [← run_next hmi.out hfl.out hdm (by rw [← hl, show n - (i + d) = m - d by have := hmi.out; omega])]; exact hrun.out
            have HRo : Hid (vl (fun k => X (i + d + k)) (n - (i + d)) 5 0 = none → cnt1 t tag c = R) := fun hl => by
              rw [← run_notag hmi.out hfl.out hdm (by rw [← hl, show n - (i + d) = m - d by have := hmi.out; omega])]; exact hrun.out
            have hfu2 : Hid (∀ l, 0 < l → l ≤ n - (i + d) → n - (i + d + l) < f ∧ cnt1 t tag c ≤ ((i + d + l : Nat) : Int)) := fun l hl1 hl2 => by have := hmi.out; omega
            clear hfl hrun hmi hdm
            generalize i + d = i2 at *
            go_wp2_with fail
            refine (mv5 a n c0 i2 X wr hn hi2 HL.out HX.out).mono ?_
            rintro e w2 ⟨hw, ⟨l, hl, rfl⟩ | ⟨hl, rfl⟩⟩
            · have hR : Hid (run X n tag f (i2 + l) (acc (fun k => X (i2 + k)) l % 4294967296) (cnt1 t tag c) = R) := HRn.out l hl
              have hlb := vl_bound hl
              have har := acc_range (fun k => X (i2 + k)) l
              have hfu3 := hfu2.out l (by omega) (by omega)
              rw [hw]
              clear hw hl HRn HRo hfu2
              go_wp2_with fail
              go_roundg f
              case measure => omega
              case rel => exact ⟨i2 + l, _, _, rfl, rfl, rfl, by omega, by omega, hR, by omega, by omega, by omega, by omega, by first | rfl | trivial⟩
            · have hR : Hid (cnt1 t tag c = R) := HRo.out hl
              rw [hw]
              clear hw hl HRn HRo hfu2
              go_wp2_with fail
              go_ret
              exact ⟨ret_int hR.out, rfl⟩
      · have hfl : Hid (fl (bits .and .u64 t 7) (fun k => X (i + k)) m = none) := by
          rw [hty]; exact fl2_none (by rw [← hl, hmi.out])
        rw [hw]
        clear hw hl
        have hR : Hid (cnt1 t tag c = R) := by rw [← run_none hmi.out hfl.out]; exact hrun.out
        clear hfl hrun hmi
        go_wp2_with fail
        go_ret
        exact ⟨ret_int hR.out, rfl⟩
    · as_aux_lemma =>
      by_cases hk : n - i < 4
      · have hfl : Hid (fl (bits .and .u64 t 7) (fun k => X (i + k)) m = none) := by
          rw [hty, hmi.out]; simp [Hid, fl]; omega
        have hk1 : (n : Int) - (i : Int) < 4 := by omega
        have hR : Hid (cnt1 t tag c = R) := by rw [← run_none hmi.out hfl.out]; exact hrun.out
        clear hfl hrun hmi
        go_wp2_with fail
        go_ret
        exact ⟨ret_int hR.out, rfl⟩
      · have hfl0 : fl (bits .and .u64 t 7) (fun k => X (i + k)) m = some 4 := by
          rw [hty, hmi.out]; simp [fl]; omega
        have hk1 : ¬ (n : Int) - (i : Int) < 4 := by omega
        obtain ⟨d, hd⟩ : ∃ d : Nat, Hid (d = 4) := ⟨4, rfl⟩
        have hfl : Hid (fl (bits .and .u64 t 7) (fun k => X (i + k)) m = some d) := by rw [hd.out]; exact hfl0
        have hdb := fl_bound hfl.out
        go_upto_region 29 with fail
        rw [show (i : Int) + 4 = ((i + d : Nat) : Int) by rw [hd.out]; omega]
        clear hty hfl0 hd hk hk1
        by_cases hdm : d = m
        · have hR : Hid (cnt1 t tag c = R) := by rw [← run_full hmi.out hfl.out hdm]; exact hrun.out
          have hdm1 : (((i + d : Nat) : Int) == (n : Int)) = true := beq_iff_eq.2 (by have := hmi.out; omega)
          clear hfl hrun hmi
          generalize hid : i + d = i2 at *
          have hid' := hid
          clear hid
          go_wp2_with fail
          go_ret
          exact ⟨ret_int hR.out, rfl⟩
        · have hdm1 : (((i + d : Nat) : Int) == (n : Int)) = false := beq_eq_false_iff_ne.2 (by have := hmi.out; omega)
          have hi2 : i + d ≤ n := by have := hmi.out; omega
          have HRn : Hid (∀ l, vl (fun k => X (i + d + k)) (n - (i + d)) 5 0 = some l → run X n tag f (i + d + l) (acc (fun k => X (i + d + k)) l % 4294967296) (cnt1 t tag c) = R) := fun l hl => by
            rw [← run_next hmi.out hfl.out hdm (by rw [← hl, show n - (i + d) = m - d by have := hmi.out; omega])]; exact hrun.out
          have HRo : Hid (vl (fun k => X (i + d + k)) (n - (i + d)) 5 0 = none → cnt1 t tag c = R) := fun hl => by
            rw [← run_notag hmi.out hfl.out hdm (by rw [← hl, show n - (i + d) = m - d by have := hmi.out; omega])]; exact hrun.out
          have hfu2 : Hid (∀ l, 0 < l → l ≤ n - (i + d) → n - (i + d + l) < f ∧ cnt1 t tag c ≤ ((i + d + l : Nat) : Int)) := fun l hl1 hl2 => by have := hmi.out; omega
          clear hfl hrun hmi hdm
          generalize i + d = i2 at *
          go_wp2_with fail
          refine (mv5 a n c0 i2 X wr hn hi2 HL.out HX.out).mono ?_
          rintro e w2 ⟨hw, ⟨l, hl, rfl⟩ | ⟨hl, rfl⟩⟩
          · have hR : Hid (run X n tag f (i2 + l) (acc (fun k => X (i2 + k)) l % 4294967296) (cnt1 t tag c) = R) := HRn.out l hl
            have hlb := vl_bound hl
            have har := acc_range (fun k => X (i2 + k)) l
            have hfu3 := hfu2.out l (by omega) (by omega)
            rw [hw]
            clear hw hl HRn HRo hfu2
            go_wp2_with fail
            go_roundg f
            case measure => omega
            case rel => exact ⟨i2 + l, _, _, rfl, rfl, rfl, by omega, by omega, hR, by omega, by omega, by omega, by omega, by first | rfl | trivial⟩
          · have hR : Hid (cnt1 t tag c = R) := HRo.out hl
            rw [hw]
            clear hw hl HRn HRo hfu2
            go_wp2_with fail
            go_ret
            exact ⟨ret_int hR.out, rfl⟩
    · as_aux_lemma =>
      have hfl : Hid (fl (bits .and .u64 t 7) (fun k => X (i + k)) m = none) := by rw [hty]; simp [Hid, fl]
      have hR : Hid (cnt1 t tag c = R) := by rw [← run_none hmi.out hfl.out]; exact hrun.out
      clear hfl hrun hmi
      go_wp2_with fail
      go_ret
      exact ⟨ret_int hR.out, rfl⟩
    · as_aux_lemma =>
      have hfl : Hid (fl (bits .and .u64 t 7) (fun k => X (i + k)) m = none) := by rw [hty]; simp [Hid, fl]
      have hR : Hid (cnt1 t tag c = R) := by rw [← run_none hmi.out hfl.out]; exact hrun.out
      clear hfl hrun hmi
      go_wp2_with fail
      go_ret
      exact ⟨ret_int hR.out, rfl⟩
    · as_aux_lemma =>
      have hfl : Hid (fl (bits .and .u64 t 7) (fun k => X (i + k)) m = none) := by rw [hty]; simp [Hid, fl]
      have hR : Hid (cnt1 t tag c = R) := by rw [← run_none hmi.out hfl.out]; exact hrun.out
      clear hfl hrun hmi
      go_wp2_with fail
      go_ret
      exact ⟨ret_int hR.out, rfl⟩
    · as_aux_lemma =>
      have hfl : Hid (fl (bits .and .u64 t 7) (fun k => X (i + k)) m = none) := by rw [hty]; simp [Hid, fl]
      have hR : Hid (cnt1 t tag c = R) := by rw [← run_none hmi.out hfl.out]; exact hrun.out
      clear hfl hrun hmi
      go_wp2_with fail
      go_ret
      exact ⟨ret_int hR.out, rfl⟩

end Go.Proofs.YbulkegbcDoor
