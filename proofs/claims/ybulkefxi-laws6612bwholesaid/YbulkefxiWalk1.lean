/-
  The walk of LawS6612BWhole, mode 1: the typed copy holds floats.
-/
import Derived.Test.YbulkefxiParts
import Derived.BigQuiet
import Derived.Deep.QuietTactic
import Derived.Deep.CutRange
import Derived.Deep.CutBlock
namespace Go.Proofs.Ybulkefxi
open Go.RowKit Go.Lib

/-- A store of a float into a cell: as every one-cell value's. -/
theorem store_float (a : Addr) (b : Nat) (m : Mode) (w : World) : (store a (.float .f64 b) m).run Yba.prog w = stored Yba.prog w a (.float .f64 b) m := run_store _ _ _ _ _ rfl

set_option maxHeartbeats 4000000 in
set_option maxRecDepth 100000 in
theorem walk1 (a0 : Int) (b off n c : Nat) (a2 : Option Addr) (n2 c2 : Nat) (a3 : Int) (X : Nat → Int) (w : World) (h00 : 0 ≤ a0) (h01 : a0 ≤ 255)
    (hn : n ≤ 1048576) (hn0 : 0 < n) (h2 : n2 ≤ 1048576) (hb : b < w.heap.size) (hX : ∀ i, i < n → w.cell? ⟨b, off + i, none⟩ = some (.int .i64 (X i))) (hm : a0 % 4 = 1) :
    Calls Yba.prog 3 #[.int .u8 a0, .slice (some ⟨b, off, none⟩) n c, .slice a2 n2 c2, .int .i64 a3] w fun e w' => e = .returned (.bool true) ∧ Below w.heap.size w w' := by
  obtain ⟨i36, hi36, hz360, hz361, hz362⟩ := info_parts Yba.info36
  obtain ⟨i34, hi34, hz0, hz1, hz2⟩ := info_parts Yba.info34
  have fb := frombits
  have sf := store_float
  have HX : Hid (∀ i, i < n → w.cell? ⟨b, off + i, none⟩ = some (.int .i64 (X i))) := hX
  clear hX
  have HM : Hid (∀ v : Value, v = .int .i64 (wrap64 (a0.tmod 4)) → v = .int .i64 1) := fun v hv => hv.trans (mode_eq h00 h01 hm)
  clear hm h00 h01
  go_enter Yba.func3, Yba.ntmps3
  go_upto_region 3 with fail
  go_cut [9] from 43 to 45 (fun v wx => v = .int .i64 1 ∧ w = wx)
  case first =>
    go_wp2_with fail
    go_meet
    case rel => exact ⟨HM.out _ rfl, rfl⟩
  case rest =>
    obtain ⟨rfl, rfl⟩ := hcut
    clear HM
    go_wp2_with (at_make; refine wpList_make_full _ rfl (.tmp 121) (.tmp 121) 35 rfl w.heap.size 36 i36 (.float .f64 0) 1 Yba.underlying35 hi36 hz360 hz361 _ _ _ _ n rfl rfl rfl rfl ?ma ?mb (Nat.le_refl _) ?_)
    case ma => rw [hz362]; omega
    case mb => unfold maxLen; omega
    intro w1 hown1 hg1
    have hb1 : Below w.heap.size w w1 := (Below.refl _ _).grown hg1 (Nat.le_refl _) (by intro k hk; cases hk)
    have hrow1 : Row w1 w.heap.size n 0 (fun i => .float .f64 (IntKind.u64.wrap (X i)).toNat) := Row.made hown1 _
    have hlt1 : w.heap.size < w1.heap.size := (hown1.lt _ rfl).2
    clear hown1 hg1
    go_wp2_with (at_make; refine wpList_make_full _ rfl (.tmp 124) (.tmp 124) 24 rfl w1.heap.size 34 i34 .nilIface 1 Yba.underlying24 hi34 hz0 hz1 _ _ _ _ n rfl rfl rfl rfl ?mc ?md (Nat.le_refl _) ?_)
    case mc => rw [hz2]; omega
    case md => unfold maxLen; omega
    intro w2 hown2 hg2
    have hb2 : Below w.heap.size w w2 := hb1.grown hg2 hb1.size (by intro k hk; cases hk)
    have hrow1' := hrow1.same (hg2.block _ hlt1 (by simp))
    have hrow2 : Row w2 w1.heap.size n 0 (fun i => .iface 39 (.float .f64 (IntKind.u64.wrap (X i)).toNat)) := Row.made hown2 _
    have hlt2 : w1.heap.size < w2.heap.size := (hown2.lt _ rfl).2
    clear hown2 hg2 hrow1 hb1
    generalize w1.heap.size = gm at *
    go_wp2_with fail
    go_loopw [15, 16] (fun i _ wr => ∃ k : Nat, k ≤ n ∧ i = .int .i64 k ∧ Below w.heap.size w wr ∧ gm < wr.heap.size ∧ Row wr w.heap.size n k (fun i => .float .f64 (IntKind.u64.wrap (X i)).toNat) ∧ Row wr gm n k (fun i => .iface 39 (.float .f64 (IntKind.u64.wrap (X i)).toNat))) (fun i _ _ => n - (intOf i).toNat)
    case atStart => exact ⟨0, Nat.zero_le _, rfl, hb2, hlt2, hrow1', hrow2⟩
    case round =>
      obtain ⟨k, hk, rfl, hbk, hgm, hra, hrm⟩ := hrel
      clear hb2 hrow1' hrow2
      by_cases hlt : k < n
      · have hxk : wr.cell? ⟨b, off + k, none⟩ = some (.int .i64 (X k)) := (hbk.cell hb).trans (HX.out k hlt)
        obtain ⟨old, hold⟩ := hra.old k hlt
        have hfr := hra.free k hlt
        obtain ⟨old2, hold2⟩ := hrm.old k hlt
        have hfr2 := hrm.free k hlt
        have hne : ¬ gm = w.heap.size := by omega
        have hne' : ¬ w.heap.size = gm := by omega
        go_wp2_with fail
        go_roundw
        case rel =>
          exact ⟨k + 1, by omega, by go_num, (hbk.setCell (by simp) _).setCell (by simp; omega) _, by simpa using hgm, (hra.store hlt _ rfl).other (by simp; omega) _, (hrm.other (by simp; omega) _).store hlt _ rfl⟩
        case measure => simp [intOf]; omega
      · as_aux_lemma =>
        have hcp0 : Cp w (wr.alloc (.cells #[.iface 41 (.agg #[.slice (some ⟨w.heap.size, 0, none⟩) n n]), .slice none 0 0] 31)) wr.heap.size (.iface 41 (.agg #[.slice (some ⟨w.heap.size, 0, none⟩) n n])) (.slice none 0 0) w.heap.size n (fun i => .float .f64 (IntKind.u64.wrap (X i)).toNat) :=
          ⟨hbk.alloc hbk.size _, by simp, by simp, fun i hi => later (hra.done i (by omega)) _⟩
        have hmod : Hid (∀ i, i < n → wr.cell? ⟨gm, i, none⟩ = some (.iface 39 (.float .f64 (IntKind.u64.wrap (X i)).toNat))) := fun i hi => hrm.done i (by omega)
        have hne : ((n : Int) == 0) = false := beq_eq_false_iff_ne.2 (by omega)
        clear hrm hra hbk hgm
        go_upto_region 50 with fail
        go_cut [23] from 186 to 191 (fun v wx => (∃ j : Nat, j < n ∧ v = .int .i64 j) ∧ wx = (wr.alloc (.cells #[.iface 41 (.agg #[.slice (some ⟨w.heap.size, 0, none⟩) n n]), .slice none 0 0] 31)))
        case first =>
          go_wp2_with fail
          go_meet
          case rel => exact ⟨idx_ok a3 n hn0 hn, rfl⟩
        case rest =>
          as_aux_lemma =>
          obtain ⟨⟨j, hj, rfl⟩, hwc⟩ := hcut
          have hcp : Cp w wc wr.heap.size (.iface 41 (.agg #[.slice (some ⟨w.heap.size, 0, none⟩) n n])) (.slice none 0 0) w.heap.size n (fun i => .float .f64 (IntKind.u64.wrap (X i)).toNat) := by rw [hwc]; exact hcp0
          have hmodc : Hid (wc.cell? ⟨gm, j, none⟩ = some (.iface 39 (.float .f64 (IntKind.u64.wrap (X j)).toNat))) := by rw [hwc]; exact later (hmod.out j hj) _
          clear hwc hcp0 hmod
          generalize wr.heap.size = gc at *
          go_wp2_with fail
          refine (get_float gc w.heap.size n n j (IntKind.u64.wrap (X j)).toNat _ hj hcp.c0 (hcp.row j hj)).mono ?_
          rintro e w5 ⟨rfl, hw⟩
          have hcp5 : Cp w w5 gc (.iface 41 (.agg #[.slice (some ⟨w.heap.size, 0, none⟩) n n])) (.slice none 0 0) w.heap.size n (fun i => .float .f64 (IntKind.u64.wrap (X i)).toNat) := by rw [hw]; exact hcp.alloc _
          have hmj : w5.cell? ⟨gm, j, none⟩ = some (.iface 39 (.float .f64 (IntKind.u64.wrap (X j)).toNat)) := by rw [hw]; exact later hmodc.out _
          clear hw hcp hmodc
          go_wp2_with fail
          refine (same_float (IntKind.u64.wrap (X j)).toNat _).mono ?_
          rintro e w6 ⟨rfl, hw⟩
          rw [hw]
          clear hw
          have e0 := hcp5.c0
          have e1 := later hcp5.c1
          have ea := as41
          have q24 : ∀ (w : World) (a : Option Addr) (n c n' c' : Nat), (binOp .neq 24 (.slice a n c) (.slice none n' c')).run Yba.prog w = .ok (.bool (!a.isNone)) w := fun w a n c n' c' => run_neq_slice_nil_any w _ _ a n c n' c' Yba.underlying24
          go_wp2_with fail
          have hcpL := hcp5.alloc (.cells #[.slice (some ⟨w.heap.size, 0, none⟩) n n] 41)
          clear e0 e1 ea hmj
          go_loopw [30] (fun i wx => ∃ k : Nat, k ≤ n ∧ i = .int .i64 k ∧ Cp w wx gc (.iface 41 (.agg #[.slice (some ⟨w.heap.size, 0, none⟩) n n])) (.slice none 0 0) w.heap.size n (fun i => .float .f64 (IntKind.u64.wrap (X i)).toNat) ∧ wx.cell? ⟨w5.heap.size, 0, none⟩ = some (.slice (some ⟨w.heap.size, 0, none⟩) n n)) (fun i _ => n - (intOf i).toNat)
          case atStart => exact ⟨0, Nat.zero_le _, rfl, hcpL, by simp⟩
          case round =>
            as_aux_lemma =>
            obtain ⟨k', hk', rfl, hcp6, hcell6⟩ := hrel
            clear hcpL hcp5 fb
            by_cases hlt' : k' < n
            · have f1 := hcp6.row k' hlt'
              have f2 : wr.cell? ⟨b, off + k', none⟩ = some (.int .i64 (X k')) := (hcp6.below.cell hb).trans (HX.out k' hlt')
              have tb := tobits
              have hnn : ((IntKind.u64.wrap (X k')).toNat : Int) = IntKind.u64.wrap (X k') := Int.toNat_of_nonneg (by simp only [IntKind.wrap_u64]; omega)
              go_wp2_with fail
              go_quiet (fail)
              go_wp2_with fail
              go_roundw
              case rel => exact ⟨k' + 1, by omega, by go_num, hcp6.drewN _, hcell6⟩
              case measure => simp [intOf]; omega
            · go_wp2
              go_ret
              exact ⟨rfl, hcp6.below⟩

end Go.Proofs.Ybulkefxi
