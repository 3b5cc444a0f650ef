/-
  The walk of LawS6612BWhole, mode 2: the typed copy holds strings.
-/
import Derived.Test.YbulkefxiParts
import Derived.BigQuiet
import Derived.Deep.QuietTactic
import Derived.Deep.CutRange
import Derived.Deep.CutBlock
import Derived.Laws.CopyOwn
namespace Go.Proofs.Ybulkefxi
open Go.RowKit Go.Lib

set_option maxHeartbeats 4000000 in
set_option maxRecDepth 100000 in
theorem walk2 (a0 : Int) (a1 : Option Addr) (n1 c1 : Nat) (b off n c : Nat) (a3 : Int) (X : Nat → ByteArray) (w : World) (h00 : 0 ≤ a0) (h01 : a0 ≤ 255)
    (hn : n ≤ 1048576) (hn0 : 0 < n) (h2 : n1 ≤ 1048576) (hb : b < w.heap.size) (hX : ∀ i, i < n → w.cell? ⟨b, off + i, none⟩ = some (.string (X i))) (hm : a0 % 4 = 2) :
    Calls Yba.prog 3 #[.int .u8 a0, .slice a1 n1 c1, .slice (some ⟨b, off, none⟩) n c, .int .i64 a3] w fun e w' => e = .returned (.bool true) ∧ Below w.heap.size w w' := by
  obtain ⟨i2, hi2, hz20, hz21, hz22⟩ := info_parts Yba.info9
  obtain ⟨i34, hi34, hz0, hz1, hz2⟩ := info_parts Yba.info34
  have HX : Hid (∀ i, i < n → w.cell? ⟨b, off + i, none⟩ = some (.string (X i))) := hX
  clear hX
  have HM : Hid (∀ v : Value, v = .int .i64 (wrap64 (a0.tmod 4)) → v = .int .i64 2) := fun v hv => hv.trans (mode_eq h00 h01 hm)
  clear hm h00 h01
  go_enter Yba.func3, Yba.ntmps3
  go_upto_region 3 with fail
  go_cut [9] from 43 to 45 (fun v wx => v = .int .i64 2 ∧ w = wx)
  case first =>
    go_wp2_with fail
    go_meet
    case rel => exact ⟨HM.out _ rfl, rfl⟩
  case rest =>
    obtain ⟨rfl, rfl⟩ := hcut
    clear HM
    go_wp2_with (at_make; refine wpList_make_full _ rfl (.tmp 155) (.tmp 155) 23 rfl w.heap.size 9 i2 (.string ⟨#[]⟩) 1 Yba.underlying23 hi2 hz20 hz21 _ _ _ _ n rfl rfl rfl rfl ?ma ?mb (Nat.le_refl _) ?_)
    case ma => rw [hz22]; omega
    case mb => unfold maxLen; omega
    intro w1 hown1 hg1
    have hb1 : Below w.heap.size w w1 := (Below.refl _ _).grown hg1 (Nat.le_refl _) (by intro k hk; cases hk)
    obtain ⟨cur, hblk, hcl⟩ : ∃ cur : List Value, w1.heap[w.heap.size]? = some (.cells cur.toArray 9 (0, 0)) ∧ cur.length = n := by
      rcases hown1.2 with ⟨h, _⟩ | ⟨g, cap, cur, h, _, hblk, _, _, hcs, _⟩
      · cases h
      · injection h with h1 h2 h3; injection h1 with h1; injection h1 with h1; subst h1; subst h3
        exact ⟨cur.toList, by simpa using hblk, by simpa using hcs⟩
    have hblk' : Hid (w1.heap[w.heap.size]? = some (.cells cur.toArray 9 (0, 0))) := hblk
    have hX1 : Hid (∀ i, i < n → w1.cell? ⟨b, off + i, none⟩ = some (.string (X i))) := fun i hi => (hb1.cell hb).trans (HX.out i hi)
    obtain ⟨cs, hcs⟩ : ∃ cs : List Value, Hid (cs = (List.range n).map fun i => Value.string (X i)) := ⟨_, rfl⟩
    clear hown1 hg1 hblk
    go_upto_region 40 with fail
    go_wp2_with (refine wpList_copy_splice rfl (.tmp 157) (.tmp 158) 23 23 rfl 9 Yba.underlying23 Yba.size9 _ _ _ _ _ _ rfl rfl w.heap.size 0 cur 9 hblk'.out cs ?ca ?cb ?cc ?cd w.heap.size w hb1 (Nat.le_refl _) ?_)
    case ca => rw [hcs.out]; simp
    case cb =>
      intro _ j v hj
      rw [hcs.out] at hj
      have hjn : j < n := by have := (List.getElem?_eq_some_iff.1 hj).1; simpa using this
      rw [hX1.out j hjn]
      simpa [hjn] using hj
    case cc => rw [hcs.out]; simp; omega
    case cd => intro v hv; rw [hcs.out] at hv; obtain ⟨i, _, rfl⟩ := List.mem_map.1 hv; rfl
    intro w2 hrow hb2
    have hrow2 : Hid (∀ i, i < n → w2.cell? ⟨w.heap.size, i, none⟩ = some (.string (X i))) := fun i hi => by
      have e : splice cur 0 cs = cs := by
        have : cs.length = n := by rw [hcs.out]; simp
        unfold splice
        rw [List.drop_eq_nil_of_le (by omega)]; simp
      have := hrow.out
      rw [e, hcs.out] at this
      simp [World.cell?, this, hi]
    clear hrow hX1 hcs hblk' hb1
    go_wp2_with (at_make; refine wpList_make_full _ rfl (.tmp 166) (.tmp 166) 24 rfl w.heap.size 34 i34 .nilIface 1 Yba.underlying24 hi34 hz0 hz1 _ _ _ _ n rfl rfl rfl rfl ?mc ?md ?me ?_)
    case mc => rw [hz2]; omega
    case md => unfold maxLen; omega
    case me => have := hb2.size; simp; omega
    intro w3 hown3 hg3
    have hcp3 : Cp w w3 w2.heap.size (.iface 43 (.agg #[.slice (some ⟨w.heap.size, 0, none⟩) n n])) (.slice none 0 0) w.heap.size n (fun i => .string (X i)) :=
      Cp.grown ⟨hb2.alloc hb2.size _, by simp, by simp, fun i hi => later (hrow2.out i hi) _⟩ hg3
    have hrow3 : Row w3 (w2.heap.size + 1) n 0 (fun i => .iface 44 (.string (X i))) := Row.made hown3 _
    have hsz := hb2.size
    clear hown3 hg3 hrow2 hb2
    generalize w2.heap.size = gc at *
    go_wp2_with fail
    go_loopw [18] (fun i wr => ∃ k : Nat, k ≤ n ∧ i = .int .i64 k ∧ Cp w wr gc (.iface 43 (.agg #[.slice (some ⟨w.heap.size, 0, none⟩) n n])) (.slice none 0 0) w.heap.size n (fun i => .string (X i)) ∧ Row wr (gc + 1) n k (fun i => .iface 44 (.string (X i)))) (fun i _ => n - (intOf i).toNat)
    case atStart => exact ⟨0, Nat.zero_le _, rfl, hcp3, hrow3⟩
    case round =>
      obtain ⟨k, hk, rfl, hcp, hrw⟩ := hrel
      clear hcp3 hrow3
      by_cases hlt : k < n
      · have hxk : wr.cell? ⟨b, off + k, none⟩ = some (.string (X k)) := (hcp.below.cell hb).trans (HX.out k hlt)
        obtain ⟨old, hold⟩ := hrw.old k hlt
        have hfr := hrw.free k hlt
        go_wp2_with fail
        go_roundw
        case rel => exact ⟨k + 1, by omega, by go_num, hcp.setCell (by simp) (by simp; omega) (by simp; omega) _, hrw.store hlt _ rfl⟩
        case measure => simp [intOf]; omega
      · as_aux_lemma =>
        have hmod : Hid (∀ i, i < n → wr.cell? ⟨gc + 1, i, none⟩ = some (.iface 44 (.string (X i)))) := fun i hi => hrw.done i (by omega)
        have hne : ((n : Int) == 0) = false := beq_eq_false_iff_ne.2 (by omega)
        clear hrw
        go_upto_region 50 with fail
        go_cut [23] from 186 to 191 (fun v wx => (∃ j : Nat, j < n ∧ v = .int .i64 j) ∧ wr = wx)
        case first =>
          go_wp2_with fail
          go_meet
          case rel => exact ⟨idx_ok a3 n hn0 hn, rfl⟩
        case rest =>
          as_aux_lemma =>
          obtain ⟨⟨j, hj, rfl⟩, rfl⟩ := hcut
          go_wp2_with fail
          refine (get_str gc w.heap.size n n j (X j) _ hj hcp.c0 (hcp.row j hj)).mono ?_
          rintro e w5 ⟨rfl, hw⟩
          have hcp5 : Cp w w5 gc (.iface 43 (.agg #[.slice (some ⟨w.heap.size, 0, none⟩) n n])) (.slice none 0 0) w.heap.size n (fun i => .string (X i)) := by rw [hw]; exact hcp.alloc _
          have hmj : w5.cell? ⟨gc + 1, j, none⟩ = some (.iface 44 (.string (X j))) := by rw [hw]; exact later (hmod.out j hj) _
          clear hw hcp hmod
          go_wp2_with fail
          refine (same_str (X j) _).mono ?_
          rintro e w6 ⟨rfl, hw⟩
          rw [hw]
          clear hw
          have e0 := hcp5.c0
          have e1 := later hcp5.c1
          have ea := as43
          have q24 : ∀ (w : World) (a : Option Addr) (n c n' c' : Nat), (binOp .neq 24 (.slice a n c) (.slice none n' c')).run Yba.prog w = .ok (.bool (!a.isNone)) w := fun w a n c n' c' => run_neq_slice_nil_any w _ _ a n c n' c' Yba.underlying24
          go_wp2_with fail
          have hcpL := hcp5.alloc (.cells #[.slice (some ⟨w.heap.size, 0, none⟩) n n] 43)
          clear e0 e1 ea hmj
          go_loopw [33] (fun i wx => ∃ k : Nat, k ≤ n ∧ i = .int .i64 k ∧ Cp w wx gc (.iface 43 (.agg #[.slice (some ⟨w.heap.size, 0, none⟩) n n])) (.slice none 0 0) w.heap.size n (fun i => .string (X i)) ∧ wx.cell? ⟨w5.heap.size, 0, none⟩ = some (.slice (some ⟨w.heap.size, 0, none⟩) n n)) (fun i _ => n - (intOf i).toNat)
          case atStart => exact ⟨0, Nat.zero_le _, rfl, hcpL, by simp⟩
          case round =>
            as_aux_lemma =>
            obtain ⟨k', hk', rfl, hcp6, hcell6⟩ := hrel
            clear hcpL hcp5
            by_cases hlt' : k' < n
            · have f1 := hcp6.row k' hlt'
              have f2 : wr.cell? ⟨b, off + k', none⟩ = some (.string (X k')) := (hcp6.below.cell hb).trans (HX.out k' hlt')
              go_wp2_with fail
              go_quiet (fail)
              go_wp2_with fail
              go_roundw
              case rel => exact ⟨k' + 1, by omega, by go_num, hcp6.drewN _, hcell6⟩
              case measure => simp [intOf]; omega
            · go_wp2
              go_ret
              exact ⟨rfl, hcp6.below⟩

end Go.Proofs.Ybulkefxi
