/-
  countFields (function 5) computes 'run'.
-/
import Derived.Test.YbulkegbcDoorFields
import Derived.Deep.LoopGhost
import Derived.Deep.CutRange
namespace Go.Proofs.YbulkegbcDoor
open Go.RowKit

theorem Errs.below {w w' : World} (h : Errs w) (hb : Below w.heap.size w w') : Errs w' := by
  obtain ⟨⟨t0, p0, h0⟩, ⟨t1, p1, h1⟩, ⟨t3, p3, h3⟩⟩ := h
  have l0 : (0 : Nat) < w.heap.size := World.block_lt_of_cell? _ _ h0
  have l1 : (1 : Nat) < w.heap.size := World.block_lt_of_cell? _ _ h1
  have l3 : (3 : Nat) < w.heap.size := World.block_lt_of_cell? _ _ h3
  exact ⟨⟨t0, p0, (hb.cell (p := ⟨0, 0, none⟩) l0).trans h0⟩, ⟨t1, p1, (hb.cell (p := ⟨1, 0, none⟩) l1).trans h1⟩, ⟨t3, p3, (hb.cell (p := ⟨3, 0, none⟩) l3).trans h3⟩⟩

/-- The count behind one more look at the tag. -/
def cnt1 (t tag c : Int) : Int := if t = tag then c + 1 else c
theorem cnt1_bound (t tag c : Int) : c ≤ cnt1 t tag c ∧ cnt1 t tag c ≤ c + 1 := by unfold cnt1; split <;> omega

theorem run_none {X : Nat → Int} {n : Nat} {tag : Int} {f i m : Nat} {t c : Int} (hm : m = n - i) (h : fl (bits .and .u64 t 7) (fun k => X (i + k)) m = none) : run X n tag (f + 1) i t c = cnt1 t tag c := by
  subst hm; simp only [run, h]; rfl
theorem run_full {X : Nat → Int} {n : Nat} {tag : Int} {f i m d : Nat} {t c : Int} (hm : m = n - i) (h : fl (bits .and .u64 t 7) (fun k => X (i + k)) m = some d) (hd : d = m) : run X n tag (f + 1) i t c = cnt1 t tag c := by
  subst hm; simp only [run, h, hd, if_true]; rfl
theorem run_notag {X : Nat → Int} {n : Nat} {tag : Int} {f i m d : Nat} {t c : Int} (hm : m = n - i) (h : fl (bits .and .u64 t 7) (fun k => X (i + k)) m = some d) (hd : ¬ d = m) (hv : vl (fun k => X (i + d + k)) (m - d) 5 0 = none) : run X n tag (f + 1) i t c = cnt1 t tag c := by
  subst hm; simp only [run, h, hd, hv, if_false]; rfl
theorem run_next {X : Nat → Int} {n : Nat} {tag : Int} {f i m d l : Nat} {t c : Int} (hm : m = n - i) (h : fl (bits .and .u64 t 7) (fun k => X (i + k)) m = some d) (hd : ¬ d = m) (hv : vl (fun k => X (i + d + k)) (m - d) 5 0 = some l) :
    run X n tag (f + 1) i t c = run X n tag f (i + d + l) (acc (fun k => X (i + d + k)) l % 4294967296) (cnt1 t tag c) := by
  subst hm; simp only [run, h, hd, hv, if_false]; rfl

theorem and7 {t : Int} (h0 : 0 ≤ t) (h1 : t ≤ 18446744073709551615) : 0 ≤ bits .and .u64 t 7 ∧ bits .and .u64 t 7 ≤ 7 := by
  rw [u64_and t 7 h0 (by omega) (by omega) (by omega)]
  have := @Nat.and_le_right t.toNat (7 : Int).toNat
  have e : (7 : Int).toNat = 7 := rfl
  rw [e] at this ⊢
  omega

theorem fl_bound {ty : Int} {X : Nat → Int} {m d : Nat} (h : fl ty X m = some d) : 0 < d ∧ d ≤ m := by
  unfold fl at h
  split at h
  · have := vl_bound h; omega
  · split at h
    · split at h
      · cases h
      · injection h with h; omega
    · split at h
      · split at h
        · cases h
        · injection h with h; omega
      · split at h
        · split at h
          · cases h
          · rename_i l hl
            have := vl_bound hl
            have ha := acc_range X l
            split at h
            · cases h
            · injection h with h; omega
        · cases h

theorem ret_int {k : IntKind} {a b : Int} (h : a = b) : Ending.returned (.int k a) = .returned (.int k b) := by rw [h]

set_option maxHeartbeats 8000000 in
set_option maxRecDepth 100000 in
theorem count (a : Option Addr) (n c0 : Nat) (tag : Int) (X : Nat → Int) (w : World) (R : Int) (hR : run X n tag (n + 1) 0 tag 0 = R) (hn : n ≤ 1048576) (hnc : n ≤ c0) (h0 : 0 ≤ tag) (h1 : tag ≤ 18446744073709551615) (h : Lies w a n X) (hX : ∀ i, 0 ≤ X i ∧ X i ≤ 255) (he : Errs w) :
    Calls Ybad.prog 5 #[.slice a n c0, .int .u64 tag] w fun e w' => e = .returned (.int .i64 R) ∧ Below w.heap.size w w' := by
  have HL : Hid (Lies w a n X) := h
  have HX : Hid (∀ i, 0 ≤ X i ∧ X i ≤ 255) := hX
  have HE : Hid (Errs w) := he
  have HR : Hid (run X n tag (n + 1) 0 tag 0 = R) := hR
  clear h hX he hR
  go_enter Ybad.func5, Ybad.ntmps5
  go_wp2_with fail
  go_loopg [0, 5, 6] (n + 1) (fun f s0 s5 s6 wx => ∃ (i m : Nat) (a' : Option Addr) (cap : Nat) (t c : Int), s0 = .slice a' m cap ∧ s5 = .int .i64 c ∧ s6 = .int .u64 t ∧ Hid (m = n - i) ∧ i ≤ n ∧ n - i < f ∧ m ≤ cap ∧ Hid (run X n tag f i t c = R) ∧ Lies wx a' m (fun k => X (i + k)) ∧ 0 ≤ c ∧ c ≤ i ∧ 0 ≤ t ∧ t ≤ 18446744073709551615 ∧ Below w.heap.size w wx)
  case atStart => exact ⟨0, n, a, c0, tag, 0, rfl, rfl, rfl, (Nat.sub_zero n).symm, by omega, by omega, hnc, HR.out, by simpa using HL.out, by omega, by omega, h0, h1, Below.refl _ _⟩
  case round =>
    obtain ⟨i, m, a', cap, t, c, rfl, rfl, rfl, hmi, hin, hfu, hmc, hrun0, hlies, hc0, hc1, ht0, ht1, hbel⟩ := hrel
    obtain ⟨f, hgf⟩ : ∃ f, gk = f + 1 := ⟨gk - 1, by omega⟩
    have hrun : Hid (run X n tag (f + 1) i t c = R) := by rw [← hgf]; exact hrun0
    have hgk : f < gk := by omega
    have hmn : m ≤ n := by have := hmi.out; omega
    have hfu' : n - i ≤ f := by omega
    have HLr : Hid (Lies wr a' m (fun k => X (i + k))) := hlies
    have HEr : Hid (Errs wr) := HE.out.below hbel
    clear hrun0 hlies hgf hfu HL HR HE
    have hcb := cnt1_bound t tag c
    go_upto_if 12 with fail
    go_cut [5] from 10 to 74 (fun v wx => v = .int .i64 (cnt1 t tag c) ∧ wr = wx)
    case first =>
      as_aux_lemma =>
      by_cases ht : t = tag
      · have hb1 : (t == tag) = true := beq_iff_eq.2 ht
        have hcc : Hid (c + 1 = cnt1 t tag c) := by simp [Hid, cnt1, ht]
        clear ht
        go_wp2_with fail
        go_meet
        case rel => exact ⟨by rw [hcc.out], rfl⟩
      · have hb1 : (t == tag) = false := beq_eq_false_iff_ne.2 ht
        have hcc : Hid (c = cnt1 t tag c) := by simp [Hid, cnt1, ht]
        clear ht
        go_wp2_with fail
        go_meet
        case rel => exact ⟨by rw [← hcc.out], rfl⟩
    case rest =>
    obtain ⟨rfl, rfl⟩ := hcut
    have hty := and7 ht0 ht1
    have hcases : bits .and .u64 t 7 = 0 ∨ bits .and .u64 t 7 = 1 ∨ bits .and .u64 t 7 = 2 ∨ bits .and .u64 t 7 = 5 ∨ bits .and .u64 t 7 = 3 ∨ bits .and .u64 t 7 = 4 ∨ bits .and .u64 t 7 = 6 ∨ bits .and .u64 t 7 = 7 := by omega
    clear hty
    rcases hcases with hty | hty | hty | hty | hty | hty | hty | hty
    · as_aux_lemma =>
      have HF : Hid (∀ d, vl (fun k => X (i + k)) m 10 0 = d → fl (bits .and .u64 t 7) (fun k => X (i + k)) m = d) := fun d hd => by rw [hty, ← hd]; rfl
      go_wp2_with fail
      refine (cv a' m cap (fun k => X (i + k)) wr (by omega) HLr.out (fun k => HX.out _) HEr.out).mono ?_
      rintro e wy (⟨d, hl, rfl, hw⟩ | ⟨hl, t2, p2, rfl, q2, hw⟩)
      · have hfl : Hid (fl (bits .and .u64 t 7) (fun k => X (i + k)) m = some d) := HF.out _ hl
        have hdb := fl_bound hfl.out
        have hby : Below wr.heap.size wr wy := by rw [hw]; exact Below.refl _ _
        have HLy : Hid (Lies wy a' m (fun k => X (i + k))) := HLr.out.below hby
        have HEy : Hid (Errs wy) := HEr.out.below hby
        clear hw hl HF hty
        by_cases hdm : d = m
        · have hR : Hid (cnt1 t tag c = R) := by rw [← run_full hmi.out hfl.out hdm]; exact hrun.out
          have hdm1 : ((d : Int) == (m : Int)) = true := beq_iff_eq.2 (by omega)
          clear hfl hrun hmi
          go_wp2_with fail
          go_ret
          exact ⟨ret_int hR.out, (hbel.trans (hby.mono hbel.size))⟩
        · have hdm1 : ((d : Int) == (m : Int)) = false := beq_eq_false_iff_ne.2 (by omega)
          have hcd : ¬ cap = d := by omega
          obtain ⟨b, off, rfl, hb, hcells⟩ := HLy.out.resolve_left (by omega)
          have HL2 : Hid (Lies wy (some ⟨b, off + d, none⟩) (m - d) (fun k => X (i + d + k))) := .inr ⟨b, off + d, rfl, hb, fun k hk => by
            simpa [Nat.add_assoc] using hcells (d + k) (by omega)⟩
          clear hcells HLy
          go_wp2_with fail
          refine (ctag (some ⟨b, off + d, none⟩) (m - d) (cap - d) (fun k => X (i + d + k)) wy (by omega) HL2.out (fun k => HX.out _) HEy.out).mono ?_
          rintro e w2 (⟨l, hl, rfl, hw⟩ | ⟨hl, v2, k2, t2, p2, rfl, q2, hw⟩)
          · have hR : Hid (run X n tag f (i + d + l) (acc (fun k => X (i + d + k)) l % 4294967296) (cnt1 t tag c) = R) := by rw [← run_next hmi.out hfl.out hdm hl]; exact hrun.out
            have hlb := vl_bound hl
            have har := acc_range (fun k => X (i + d + k)) l
            have hmi2 : Hid (m - d - l = n - (i + d + l)) := by show m - d - l = n - (i + d + l); have := hmi.out; omega
            have hin : i + d + l ≤ n := by have := hmi.out; omega
            have hfu : n - (i + d + l) < f := by have := hmi.out; omega
            rw [hw]
            clear hw hl hfl hrun hmi
            by_cases hcl : cap - d = l
            · have hz : Hid (m - d - l = 0) := by show m - d - l = 0; omega
              go_wp2_with fail
              go_roundg f
              case measure => omega
              case rel => exact ⟨i + d + l, m - d - l, _, _, _, _, rfl, rfl, rfl, hmi2, hin, hfu, by omega, hR, .inl hz.out, by omega, by omega, by omega, by omega, hbel.trans (hby.mono hbel.size)⟩
            · have HL3 : Hid (Lies wy (some ⟨b, off + d + l, none⟩) (m - d - l) (fun k => X (i + d + l + k))) := by
                rcases HL2.out with h0 | ⟨b', off', ha', hb', hc'⟩
                · exact .inl (by omega)
                · injection ha' with ha'
                  injection ha' with h1 h2
                  subst h1; subst h2
                  refine .inr ⟨b, off + d + l, rfl, hb', fun k hk => ?_⟩
                  simpa [Nat.add_assoc] using hc' (l + k) (by omega)
              go_wp2_with fail
              go_roundg f
              case measure => omega
              case rel => exact ⟨i + d + l, m - d - l, _, _, _, _, rfl, rfl, rfl, hmi2, hin, hfu, by omega, hR, HL3.out, by omega, by omega, by omega, by omega, hbel.trans (hby.mono hbel.size)⟩
          · have hR : Hid (cnt1 t tag c = R) := by rw [← run_notag hmi.out hfl.out hdm hl]; exact hrun.out
            rw [hw]
            clear hw hl hfl hrun hmi
            go_wp2_with fail
            go_ret
            exact ⟨ret_int hR.out, below_drewN (hbel.trans (hby.mono hbel.size)) _⟩
      · have hfl : Hid (fl (bits .and .u64 t 7) (fun k => X (i + k)) m = none) := HF.out _ hl
        rw [hw]
        clear hw hl HF hty
        have hR : Hid (cnt1 t tag c = R) := by rw [← run_none hmi.out hfl.out]; exact hrun.out
        clear hfl hrun hmi
        go_wp2_with fail
        go_ret
        exact ⟨ret_int hR.out, below_drewN hbel _⟩
    · as_aux_lemma =>
      have HF : Hid ((8 ≤ m → fl (bits .and .u64 t 7) (fun k => X (i + k)) m = some 8) ∧ (m < 8 → fl (bits .and .u64 t 7) (fun k => X (i + k)) m = none)) := by
        rw [hty]
        exact ⟨fun h => by simp [fl]; omega, fun h => by simp [fl]; omega⟩
      go_wp2_with fail
      refine (cf64 a' m cap (fun k => X (i + k)) wr (by omega) HLr.out (fun k => HX.out _) HEr.out).mono ?_
      rintro e wy ⟨⟨hk, v1, rfl⟩ | ⟨hk, v1, t2, p2, rfl⟩, hby⟩
      · have hfl0 := HF.out.1 hk
        obtain ⟨d, hd⟩ : ∃ d : Nat, Hid (d = 8) := ⟨8, rfl⟩
        have hfl : Hid (fl (bits .and .u64 t 7) (fun k => X (i + k)) m = some d) := by rw [hd.out]; exact hfl0
        have hdb := fl_bound hfl.out
        rw [show (8 : Int) = (d : Int) by rw [hd.out]; rfl]
        have HLy : Hid (Lies wy a' m (fun k => X (i + k))) := HLr.out.below hby
        have HEy : Hid (Errs wy) := HEr.out.below hby
        clear HF hty hfl0 hd hk
        by_cases hdm : d = m
        · have hR : Hid (cnt1 t tag c = R) := by rw [← run_full hmi.out hfl.out hdm]; exact hrun.out
          have hdm1 : ((d : Int) == (m : Int)) = true := beq_iff_eq.2 (by omega)
          clear hfl hrun hmi
          go_wp2_with fail
          go_ret
          exact ⟨ret_int hR.out, (hbel.trans (hby.mono hbel.size))⟩
        · have hdm1 : ((d : Int) == (m : Int)) = false := beq_eq_false_iff_ne.2 (by omega)
          have hcd : ¬ cap = d := by omega
          obtain ⟨b, off, rfl, hb, hcells⟩ := HLy.out.resolve_left (by omega)
          have HL2 : Hid (Lies wy (some ⟨b, off + d, none⟩) (m - d) (fun k => X (i + d + k))) := .inr ⟨b, off + d, rfl, hb, fun k hk => by
            simpa [Nat.add_assoc] using hcells (d + k) (by omega)⟩
          clear hcells HLy
          go_wp2_with fail
          refine (ctag (some ⟨b, off + d, none⟩) (m - d) (cap - d) (fun k => X (i + d + k)) wy (by omega) HL2.out (fun k => HX.out _) HEy.out).mono ?_
          rintro e w2 (⟨l, hl, rfl, hw⟩ | ⟨hl, v2, k2, t2, p2, rfl, q2, hw⟩)
          · have hR : Hid (run X n tag f (i + d + l) (acc (fun k => X (i + d + k)) l % 4294967296) (cnt1 t tag c) = R) := by rw [← run_next hmi.out hfl.out hdm hl]; exact hrun.out
            have hlb := vl_bound hl
            have har := acc_range (fun k => X (i + d + k)) l
            have hmi2 : Hid (m - d - l = n - (i + d + l)) := by show m - d - l = n - (i + d + l); have := hmi.out; omega
            have hin : i + d + l ≤ n := by have := hmi.out; omega
            have hfu : n - (i + d + l) < f := by have := hmi.out; omega
            rw [hw]
            clear hw hl hfl hrun hmi
            by_cases hcl : cap - d = l
            · have hz : Hid (m - d - l = 0) := by show m - d - l = 0; omega
              go_wp2_with fail
              go_roundg f
              case measure => omega
              case rel => exact ⟨i + d + l, m - d - l, _, _, _, _, rfl, rfl, rfl, hmi2, hin, hfu, by omega, hR, .inl hz.out, by omega, by omega, by omega, by omega, hbel.trans (hby.mono hbel.size)⟩
            · have HL3 : Hid (Lies wy (some ⟨b, off + d + l, none⟩) (m - d - l) (fun k => X (i + d + l + k))) := by
                rcases HL2.out with h0 | ⟨b', off', ha', hb', hc'⟩
                · exact .inl (by omega)
                · injection ha' with ha'
                  injection ha' with h1 h2
                  subst h1; subst h2
                  refine .inr ⟨b, off + d + l, rfl, hb', fun k hk => ?_⟩
                  simpa [Nat.add_assoc] using hc' (l + k) (by omega)
              go_wp2_with fail
              go_roundg f
              case measure => omega
              case rel => exact ⟨i + d + l, m - d - l, _, _, _, _, rfl, rfl, rfl, hmi2, hin, hfu, by omega, hR, HL3.out, by omega, by omega, by omega, by omega, hbel.trans (hby.mono hbel.size)⟩
          · have hR : Hid (cnt1 t tag c = R) := by rw [← run_notag hmi.out hfl.out hdm hl]; exact hrun.out
            rw [hw]
            clear hw hl hfl hrun hmi
            go_wp2_with fail
            go_ret
            exact ⟨ret_int hR.out, below_drewN (hbel.trans (hby.mono hbel.size)) _⟩
      · have hfl : Hid (fl (bits .and .u64 t 7) (fun k => X (i + k)) m = none) := HF.out.2 hk
        clear HF hty
        have hR : Hid (cnt1 t tag c = R) := by rw [← run_none hmi.out hfl.out]; exact hrun.out
        clear hfl hrun hmi
        go_wp2_with fail
        go_ret
        exact ⟨ret_int hR.out, hbel.trans (hby.mono hbel.size)⟩
    · as_aux_lemma =>
      have HF : Hid (∀ d, fl 2 (fun k => X (i + k)) m = d → fl (bits .and .u64 t 7) (fun k => X (i + k)) m = d) := fun d hd => by rw [hty]; exact hd
      go_wp2_with fail
      refine (cbytes a' m cap (fun k => X (i + k)) wr (by omega) hmc HLr.out (fun k => HX.out _) HEr.out).mono ?_
      rintro e wy (⟨d, sv, hl, rfl, hw⟩ | ⟨hl, sv, t2, p2, rfl, q2, hw⟩)
      · have hfl : Hid (fl (bits .and .u64 t 7) (fun k => X (i + k)) m = some d) := HF.out _ hl
        have hdb := fl_bound hfl.out
        have hby : Below wr.heap.size wr wy := by rw [hw]; exact Below.refl _ _
        have HLy : Hid (Lies wy a' m (fun k => X (i + k))) := HLr.out.below hby
        have HEy : Hid (Errs wy) := HEr.out.below hby
        clear hw hl HF hty
        by_cases hdm : d = m
        · have hR : Hid (cnt1 t tag c = R) := by rw [← run_full hmi.out hfl.out hdm]; exact hrun.out
          have hdm1 : ((d : Int) == (m : Int)) = true := beq_iff_eq.2 (by omega)
          clear hfl hrun hmi
          go_wp2_with fail
          go_ret
          exact ⟨ret_int hR.out, (hbel.trans (hby.mono hbel.size))⟩
        · have hdm1 : ((d : Int) == (m : Int)) = false := beq_eq_false_iff_ne.2 (by omega)
          have hcd : ¬ cap = d := by omega
          obtain ⟨b, off, rfl, hb, hcells⟩ := HLy.out.resolve_left (by omega)
          have HL2 : Hid (Lies wy (some ⟨b, off + d, none⟩) (m - d) (fun k => X (i + d + k))) := .inr ⟨b, off + d, rfl, hb, fun k hk => by
            simpa [Nat.add_assoc] using hcells (d + k) (by omega)⟩
          clear hcells HLy
          go_wp2_with fail
          refine (ctag (some ⟨b, off + d, none⟩) (m - d) (cap - d) (fun k => X (i + d + k)) wy (by omega) HL2.out (fun k => HX.out _) HEy.out).mono ?_
          rintro e w2 (⟨l, hl, rfl, hw⟩ | ⟨hl, v2, k2, t2, p2, rfl, q2, hw⟩)
          · have hR : Hid (run X n tag f (i + d + l) (acc (fun k => X (i + d + k)) l % 4294967296) (cnt1 t tag c) = R) := by rw [← run_next hmi.out hfl.out hdm hl]; exact hrun.out
            have hlb := vl_bound hl
            have har := acc_range (fun k => X (i + d + k)) l
            have hmi2 : Hid (m - d - l = n - (i + d + l)) := by show m - d - l = n - (i + d + l); have := hmi.out; omega
            have hin : i + d + l ≤ n := by have := hmi.out; omega
            have hfu : n - (i + d + l) < f := by have := hmi.out; omega
            rw [hw]
            clear hw hl hfl hrun hmi
            by_cases hcl : cap - d = l
            · have hz : Hid (m - d - l = 0) := by show m - d - l = 0; omega
              go_wp2_with fail
              go_roundg f
              case measure => omega
              case rel => exact ⟨i + d + l, m - d - l, _, _, _, _, rfl, rfl, rfl, hmi2, hin, hfu, by omega, hR, .inl hz.out, by omega, by omega, by omega, by omega, hbel.trans (hby.mono hbel.size)⟩
            · have HL3 : Hid (Lies wy (some ⟨b, off + d + l, none⟩) (m - d - l) (fun k => X (i + d + l + k))) := by
                rcases HL2.out with h0 | ⟨b', off', ha', hb', hc'⟩
                · exact .inl (by omega)
                · injection ha' with ha'
                  injection ha' with h1 h2
                  subst h1; subst h2
                  refine .inr ⟨b, off + d + l, rfl, hb', fun k hk => ?_⟩
                  simpa [Nat.add_assoc] using hc' (l + k) (by omega)
              go_wp2_with fail
              go_roundg f
              case measure => omega
              case rel => exact ⟨i + d + l, m - d - l, _, _, _, _, rfl, rfl, rfl, hmi2, hin, hfu, by omega, hR, HL3.out, by omega, by omega, by omega, by omega, hbel.trans (hby.mono hbel.size)⟩
          · have hR : Hid (cnt1 t tag c = R) := by rw [← run_notag hmi.out hfl.out hdm hl]; exact hrun.out
            rw [hw]
            clear hw hl hfl hrun hmi
            go_wp2_with fail
            go_ret
            exact ⟨ret_int hR.out, below_drewN (hbel.trans (hby.mono hbel.size)) _⟩
      · have hfl : Hid (fl (bits .and .u64 t 7) (fun k => X (i + k)) m = none) := HF.out _ hl
        rw [hw]
        clear hw hl HF hty
        have hR : Hid (cnt1 t tag c = R) := by rw [← run_none hmi.out hfl.out]; exact hrun.out
        clear hfl hrun hmi
        go_wp2_with fail
        go_ret
        exact ⟨ret_int hR.out, below_drewN hbel _⟩
    · as_aux_lemma =>
      have HF : Hid ((4 ≤ m → fl (bits .and .u64 t 7) (fun k => X (i + k)) m = some 4) ∧ (m < 4 → fl (bits .and .u64 t 7) (fun k => X (i + k)) m = none)) := by
        rw [hty]
        exact ⟨fun h => by simp [fl]; omega, fun h => by simp [fl]; omega⟩
      go_wp2_with fail
      refine (cf32 a' m cap (fun k => X (i + k)) wr (by omega) HLr.out (fun k => HX.out _) HEr.out).mono ?_
      rintro e wy ⟨⟨hk, v1, rfl⟩ | ⟨hk, v1, t2, p2, rfl⟩, hby⟩
      · have hfl0 := HF.out.1 hk
        obtain ⟨d, hd⟩ : ∃ d : Nat, Hid (d = 4) := ⟨4, rfl⟩
        have hfl : Hid (fl (bits .and .u64 t 7) (fun k => X (i + k)) m = some d) := by rw [hd.out]; exact hfl0
        have hdb := fl_bound hfl.out
        rw [show (4 : Int) = (d : Int) by rw [hd.out]; rfl]
        have HLy : Hid (Lies wy a' m (fun k => X (i + k))) := HLr.out.below hby
        have HEy : Hid (Errs wy) := HEr.out.below hby
        clear HF hty hfl0 hd hk
        by_cases hdm : d = m
        · have hR : Hid (cnt1 t tag c = R) := by rw [← run_full hmi.out hfl.out hdm]; exact hrun.out
          have hdm1 : ((d : Int) == (m : Int)) = true := beq_iff_eq.2 (by omega)
          clear hfl hrun hmi
          go_wp2_with fail
          go_ret
          exact ⟨ret_int hR.out, (hbel.trans (hby.mono hbel.size))⟩
        · have hdm1 : ((d : Int) == (m : Int)) = false := beq_eq_false_iff_ne.2 (by omega)
          have hcd : ¬ cap = d := by omega
          obtain ⟨b, off, rfl, hb, hcells⟩ := HLy.out.resolve_left (by omega)
          have HL2 : Hid (Lies wy (some ⟨b, off + d, none⟩) (m - d) (fun k => X (i + d + k))) := .inr ⟨b, off + d, rfl, hb, fun k hk => by
            simpa [Nat.add_assoc] using hcells (d + k) (by omega)⟩
          clear hcells HLy
          go_wp2_with fail
          refine (ctag (some ⟨b, off + d, none⟩) (m - d) (cap - d) (fun k => X (i + d + k)) wy (by omega) HL2.out (fun k => HX.out _) HEy.out).mono ?_
          rintro e w2 (⟨l, hl, rfl, hw⟩ | ⟨hl, v2, k2, t2, p2, rfl, q2, hw⟩)
          · have hR : Hid (run X n tag f (i + d + l) (acc (fun k => X (i + d + k)) l % 4294967296) (cnt1 t tag c) = R) := by rw [← run_next hmi.out hfl.out hdm hl]; exact hrun.out
            have hlb := vl_bound hl
            have har := acc_range (fun k => X (i + d + k)) l
            have hmi2 : Hid (m - d - l = n - (i + d + l)) := by show m - d - l = n - (i + d + l); have := hmi.out; omega
            have hin : i + d + l ≤ n := by have := hmi.out; omega
            have hfu : n - (i + d + l) < f := by have := hmi.out; omega
            rw [hw]
            clear hw hl hfl hrun hmi
            by_cases hcl : cap - d = l
            · have hz : Hid (m - d - l = 0) := by show m - d - l = 0; omega
              go_wp2_with fail
              go_roundg f
              case measure => omega
              case rel => exact ⟨i + d + l, m - d - l, _, _, _, _, rfl, rfl, rfl, hmi2, hin, hfu, by omega, hR, .inl hz.out, by omega, by omega, by omega, by omega, hbel.trans (hby.mono hbel.size)⟩
            · have HL3 : Hid (Lies wy (some ⟨b, off + d + l, none⟩) (m - d - l) (fun k => X (i + d + l + k))) := by
                rcases HL2.out with h0 | ⟨b', off', ha', hb', hc'⟩
                · exact .inl (by omega)
                · injection ha' with ha'
                  injection ha' with h1 h2
                  subst h1; subst h2
                  refine .inr ⟨b, off + d + l, rfl, hb', fun k hk => ?_⟩
                  simpa [Nat.add_assoc] using hc' (l + k) (by omega)
              go_wp2_with fail
              go_roundg f
              case measure => omega
              case rel => exact ⟨i + d + l, m - d - l, _, _, _, _, rfl, rfl, rfl, hmi2, hin, hfu, by omega, hR, HL3.out, by omega, by omega, by omega, by omega, hbel.trans (hby.mono hbel.size)⟩
          · have hR : Hid (cnt1 t tag c = R) := by rw [← run_notag hmi.out hfl.out hdm hl]; exact hrun.out
            rw [hw]
            clear hw hl hfl hrun hmi
            go_wp2_with fail
            go_ret
            exact ⟨ret_int hR.out, below_drewN (hbel.trans (hby.mono hbel.size)) _⟩
      · have hfl : Hid (fl (bits .and .u64 t 7) (fun k => X (i + k)) m = none) := HF.out.2 hk
        clear HF hty
        have hR : Hid (cnt1 t tag c = R) := by rw [← run_none hmi.out hfl.out]; exact hrun.out
        clear hfl hrun hmi
        go_wp2_with fail
        go_ret
        exact ⟨ret_int hR.out, hbel.trans (hby.mono hbel.size)⟩
    · as_aux_lemma =>
      have hfl : Hid (fl (bits .and .u64 t 7) (fun k => X (i + k)) m = none) := by rw [hty]; simp [Hid, fl]
      have hR : Hid (cnt1 t tag c = R) := by rw [← run_none hmi.out hfl.out]; exact hrun.out
      clear hfl hrun hmi
      go_wp2_with fail
      go_ret
      exact ⟨ret_int hR.out, hbel⟩
    · as_aux_lemma =>
      have hfl : Hid (fl (bits .and .u64 t 7) (fun k => X (i + k)) m = none) := by rw [hty]; simp [Hid, fl]
      have hR : Hid (cnt1 t tag c = R) := by rw [← run_none hmi.out hfl.out]; exact hrun.out
      clear hfl hrun hmi
      go_wp2_with fail
      go_ret
      exact ⟨ret_int hR.out, hbel⟩
    · as_aux_lemma =>
      have hfl : Hid (fl (bits .and .u64 t 7) (fun k => X (i + k)) m = none) := by rw [hty]; simp [Hid, fl]
      have hR : Hid (cnt1 t tag c = R) := by rw [← run_none hmi.out hfl.out]; exact hrun.out
      clear hfl hrun hmi
      go_wp2_with fail
      go_ret
      exact ⟨ret_int hR.out, hbel⟩
    · as_aux_lemma =>
      have hfl : Hid (fl (bits .and .u64 t 7) (fun k => X (i + k)) m = none) := by rw [hty]; simp [Hid, fl]
      have hR : Hid (cnt1 t tag c = R) := by rw [← run_none hmi.out hfl.out]; exact hrun.out
      clear hfl hrun hmi
      go_wp2_with fail
      go_ret
      exact ⟨ret_int hR.out, hbel⟩

end Go.Proofs.YbulkegbcDoor
