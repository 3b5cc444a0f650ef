/-
  The walk of LawS6612BWhole, mode 3: the copy is boxed.
-/
import Derived.Test.YbulkefxiParts
import Derived.BigQuiet
import Derived.Deep.QuietTactic
import Derived.Deep.CutRange
import Derived.Deep.CutBlock
namespace Go.Proofs.Ybulkefxi
open Go.RowKit Go.Lib

/-- What the law lays for the number x: an even one as an Int, an odd one as a Float of its bits: the type's number and the value. -/
def boxT (x : Int) : Nat := if x.tmod 2 = 0 then 32 else 39
def boxX (x : Int) : Value := if x.tmod 2 = 0 then .int .i64 x else .float .f64 (IntKind.u64.wrap x).toNat
theorem boxV_even {x : Int} (h : x.tmod 2 = 0) : Value.iface (boxT x) (boxX x) = .iface 32 (.int .i64 x) := by simp [boxT, boxX, h]
theorem boxV_odd {x : Int} (h : ¬ x.tmod 2 = 0) : Value.iface (boxT x) (boxX x) = .iface 39 (.float .f64 (IntKind.u64.wrap x).toNat) := by simp [boxT, boxX, h]

theorem same_box (x : Int) (w : World) : Calls Yba.prog 7 #[.iface (boxT x) (boxX x), .iface (boxT x) (boxX x)] w fun e w' => e = .returned (.bool true) ∧ w' = w := by
  by_cases h : x.tmod 2 = 0
  · rw [boxV_even h]; exact same_int x w
  · rw [boxV_odd h]; exact same_float _ w

set_option maxHeartbeats 4000000 in
set_option maxRecDepth 100000 in
theorem walk3 (a0 : Int) (b off n c : Nat) (a2 : Option Addr) (n2 c2 : Nat) (a3 : Int) (X : Nat → Int) (w : World) (h00 : 0 ≤ a0) (h01 : a0 ≤ 255)
    (hn : n ≤ 1048576) (hn0 : 0 < n) (h2 : n2 ≤ 1048576) (hb : b < w.heap.size) (hX : ∀ i, i < n → w.cell? ⟨b, off + i, none⟩ = some (.int .i64 (X i))) (hm : a0 % 4 = 3) :
    Calls Yba.prog 3 #[.int .u8 a0, .slice (some ⟨b, off, none⟩) n c, .slice a2 n2 c2, .int .i64 a3] w fun e w' => e = .returned (.bool true) ∧ Below w.heap.size w w' := by
  obtain ⟨i34, hi34, hz0, hz1, hz2⟩ := info_parts Yba.info34
  have fb := frombits
  have HX : Hid (∀ i, i < n → w.cell? ⟨b, off + i, none⟩ = some (.int .i64 (X i))) := hX
  clear hX
  have HM : Hid (∀ v : Value, v = .int .i64 (wrap64 (a0.tmod 4)) → v = .int .i64 3) := fun v hv => hv.trans (mode_eq h00 h01 hm)
  clear hm h00 h01
  go_enter Yba.func3, Yba.ntmps3
  go_upto_region 3 with fail
  go_cut [9] from 43 to 45 (fun v wx => v = .int .i64 3 ∧ w = wx)
  case first =>
    go_wp2_with fail
    go_meet
    case rel => exact ⟨HM.out _ rfl, rfl⟩
  case rest =>
    obtain ⟨rfl, rfl⟩ := hcut
    clear HM
    go_wp2_with (at_make; refine wpList_make_full _ rfl (.tmp 48) (.tmp 48) 24 rfl w.heap.size 34 i34 .nilIface 1 Yba.underlying24 hi34 hz0 hz1 _ _ _ _ n rfl rfl rfl rfl ?ma ?mb (Nat.le_refl _) ?_)
    case ma => rw [hz2]; omega
    case mb => unfold maxLen; omega
    intro w1 hown1 hg1
    have hb1 : Below w.heap.size w w1 := (Below.refl _ _).grown hg1 (Nat.le_refl _) (by intro k hk; cases hk)
    have hrow1 : Row w1 w.heap.size n 0 (fun i => .iface (boxT (X i)) (boxX (X i))) := Row.made hown1 _
    have hlt1 : w.heap.size < w1.heap.size := (hown1.lt _ rfl).2
    clear hown1 hg1
    go_wp2_with (at_make; refine wpList_make_full _ rfl (.tmp 51) (.tmp 51) 24 rfl w1.heap.size 34 i34 .nilIface 1 Yba.underlying24 hi34 hz0 hz1 _ _ _ _ n rfl rfl rfl rfl ?mc ?md (Nat.le_refl _) ?_)
    case mc => rw [hz2]; omega
    case md => unfold maxLen; omega
    intro w2 hown2 hg2
    have hb2 : Below w.heap.size w w2 := hb1.grown hg2 hb1.size (by intro k hk; cases hk)
    have hrow1' := hrow1.same (hg2.block _ hlt1 (by simp))
    have hrow2 : Row w2 w1.heap.size n 0 (fun i => .iface (boxT (X i)) (boxX (X i))) := Row.made hown2 _
    have hlt2 : w1.heap.size < w2.heap.size := (hown2.lt _ rfl).2
    clear hown2 hg2 hrow1 hb1
    generalize w1.heap.size = gm at *
    go_wp2_with fail
    go_loopw [20, 21] (fun i _ wr => ∃ k : Nat, k ≤ n ∧ i = .int .i64 k ∧ Below w.heap.size w wr ∧ gm < wr.heap.size ∧ Row wr w.heap.size n k (fun i => .iface (boxT (X i)) (boxX (X i))) ∧ Row wr gm n k (fun i => .iface (boxT (X i)) (boxX (X i)))) (fun i _ _ => n - (intOf i).toNat)
    case atStart => exact ⟨0, Nat.zero_le _, rfl, hb2, hlt2, hrow1', hrow2⟩
    case round =>
      obtain ⟨k, hk, rfl, hbk, hgm, hra, hrm⟩ := hrel
      clear hb2 hrow1' hrow2
      by_cases hlt : k < n
      · as_aux_lemma =>
        have hxk : wr.cell? ⟨b, off + k, none⟩ = some (.int .i64 (X k)) := (hbk.cell hb).trans (HX.out k hlt)
        obtain ⟨old, hold⟩ := hra.old k hlt
        have hfr := hra.free k hlt
        obtain ⟨old2, hold2⟩ := hrm.old k hlt
        have hfr2 := hrm.free k hlt
        have hne : ¬ gm = w.heap.size := by omega
        have hne' : ¬ w.heap.size = gm := by omega
        go_upto_if 64 with fail
        go_cut [21] from 53 to 84 (fun v wx => v = .iface (boxT (X k)) (boxX (X k)) ∧ wr = wx)
        case first =>
          as_aux_lemma =>
          by_cases hev : (X k).tmod 2 = 0
          · have hB : Hid (Value.iface 32 (.int .i64 (X k)) = .iface (boxT (X k)) (boxX (X k))) := (boxV_even hev).symm
            have hev1 : ((X k).tmod 2 == 0) = true := by simp [hev]
            clear hev
            go_wp2_with fail
            go_meet
            case rel => exact ⟨hB.out, rfl⟩
          · have hB : Hid (Value.iface 39 (.float .f64 (IntKind.u64.wrap (X k)).toNat) = .iface (boxT (X k)) (boxX (X k))) := (boxV_odd hev).symm
            have hev1 : ((X k).tmod 2 == 0) = false := by simp [hev]
            clear hev
            go_wp2_with fail
            go_meet
            case rel => exact ⟨hB.out, rfl⟩
        case rest =>
          as_aux_lemma =>
          obtain ⟨rfl, rfl⟩ := hcut
          go_wp2_with fail
          go_roundw
          case rel =>
            exact ⟨k + 1, by omega, by go_num, (hbk.setCell (by simp) _).setCell (by simp; omega) _, by simpa using hgm, (hra.store hlt _ rfl).other (by simp; omega) _, (hrm.other (by simp; omega) _).store hlt _ rfl⟩
          case measure => simp [intOf]; omega
      · as_aux_lemma =>
        have hcp0 : Cp w (wr.alloc (.cells #[.nilIface, .slice (some ⟨w.heap.size, 0, none⟩) n n] 31)) wr.heap.size .nilIface (.slice (some ⟨w.heap.size, 0, none⟩) n n) w.heap.size n (fun i => .iface (boxT (X i)) (boxX (X i))) :=
          ⟨hbk.alloc hbk.size _, by simp, by simp, fun i hi => later (hra.done i (by omega)) _⟩
        have hmod0 : Hid (∀ i, i < n → wr.cell? ⟨gm, i, none⟩ = some (.iface (boxT (X i)) (boxX (X i)))) := fun i hi => hrm.done i (by omega)
        have hne : ((n : Int) == 0) = false := beq_eq_false_iff_ne.2 (by omega)
        clear hrm hra hbk hgm
        go_upto_region 50 with fail
        go_cut [23] from 186 to 191 (fun v wx => (∃ j : Nat, j < n ∧ v = .int .i64 j) ∧ wx = (wr.alloc (.cells #[.nilIface, .slice (some ⟨w.heap.size, 0, none⟩) n n] 31)))
        case first =>
          go_wp2_with fail
          go_meet
          case rel => exact ⟨idx_ok a3 n hn0 hn, rfl⟩
        case rest =>
          as_aux_lemma =>
          obtain ⟨⟨j, hj, rfl⟩, hwc⟩ := hcut
          have hcp : Cp w wc wr.heap.size .nilIface (.slice (some ⟨w.heap.size, 0, none⟩) n n) w.heap.size n (fun i => .iface (boxT (X i)) (boxX (X i))) := by rw [hwc]; exact hcp0
          have hmod : Hid (∀ i, i < n → wc.cell? ⟨gm, i, none⟩ = some (.iface (boxT (X i)) (boxX (X i)))) := fun i hi => by rw [hwc]; exact later (hmod0.out i hi) _
          clear hwc hcp0 hmod0
          generalize wr.heap.size = gc at *
          go_wp2_with fail
          refine (get_boxed gc w.heap.size n n j (boxT (X j)) (boxX (X j)) _ hj hcp.c0 hcp.c1 (hcp.row j hj)).mono ?_
          rintro e w5 ⟨rfl, hw⟩
          rw [hw]
          clear hw
          have hmj := hmod.out j hj
          go_wp2_with fail
          refine (same_box (X j) _).mono ?_
          rintro e w6 ⟨rfl, hw⟩
          rw [hw]
          clear hw
          have e0 := hcp.c0
          have e1 := hcp.c1
          clear hmj
          go_wp2_with fail
          clear e0 e1
          go_loopw [34] (fun i wx => ∃ k : Nat, k ≤ n ∧ i = .int .i64 k ∧ Cp w wx gc .nilIface (.slice (some ⟨w.heap.size, 0, none⟩) n n) w.heap.size n (fun i => .iface (boxT (X i)) (boxX (X i))) ∧ ∀ i, i < n → wx.cell? ⟨gm, i, none⟩ = some (.iface (boxT (X i)) (boxX (X i)))) (fun i _ => n - (intOf i).toNat)
          case atStart => exact ⟨0, Nat.zero_le _, rfl, hcp, hmod.out⟩
          case round =>
            as_aux_lemma =>
            obtain ⟨k', hk', rfl, hcp6, hmod6⟩ := hrel
            clear hcp fb hmod
            have HM6 : Hid (∀ i, i < n → wr.cell? ⟨gm, i, none⟩ = some (.iface (boxT (X i)) (boxX (X i)))) := hmod6
            clear hmod6
            by_cases hlt' : k' < n
            · have f1 := hcp6.row k' hlt'
              have f2 := HM6.out k' hlt'
              have f3 := hcp6.c1
              go_wp2_with fail
              go_quiet ((go_at_call 7; exact Calls.quiet_of_same (same_box (X k') _)))
              go_wp2_with fail
              go_roundw
              case rel => exact ⟨k' + 1, by omega, by go_num, hcp6.drewN _, HM6.out⟩
              case measure => simp [intOf]; omega
            · go_wp2
              go_ret
              exact ⟨rfl, hcp6.below⟩

end Go.Proofs.Ybulkefxi
