/-
  The walk of LawS6613AWhole.
-/
import Derived.Test.YbulkefxwParts
import Derived.BigQuiet
import Derived.Deep.QuietTactic
import Derived.Deep.CutRange
import Derived.Deep.CutBlock
import Derived.Laws.CopyOwn
namespace Go.Proofs.Ybulkefxw
open Go.RowKit Go.Lib

set_option maxRecDepth 100000 in
theorem walkA_long (a0 : Int) (a1 : Bool) (a2 : Option Addr) (n c : Nat) (w : World) (hn : n ≤ maxLen) (h : 1048576 < n) :
    Calls Yba.prog 3 #[.int .i64 a0, .bool a1, .slice a2 n c] w fun e w' => e = .returned (.bool true) ∧ Below w.heap.size w w' := by
  unfold maxLen at hn
  go_enter Yba.func3, Yba.ntmps3
  go_wp2
  go_ret
  exact ⟨rfl, Below.refl _ _⟩

theorem near_ok {a0 : Int} (_h0 : -9223372036854775808 ≤ a0) (_h1 : a0 ≤ 9223372036854775807) : ∃ q : Int, Value.int .i64 (wrap64 (4294967296 + a0)) = .int .i64 q ∧ -9223372036854775808 ≤ q ∧ q ≤ 9223372036854775807 :=
  ⟨_, rfl, by unfold wrap64; omega, by unfold wrap64; omega⟩

/-- The cells of the error that wordOf lays. -/
def errC (i : Nat) : Value := #[Value.int .i64 (-9), .string ⟨#[]⟩, .string ⟨#[]⟩, .string ⟨#[]⟩, .int .i64 0].getD i undef
theorem err_cells (i : Nat) (hi : i < 5) : (#[Value.int .i64 (-9), .string ⟨#[]⟩, .string ⟨#[]⟩, .string ⟨#[]⟩, .int .i64 0] : Array Value)[i]? = some (errC i) := by
  have : i = 0 ∨ i = 1 ∨ i = 2 ∨ i = 3 ∨ i = 4 := by omega
  rcases this with rfl | rfl | rfl | rfl | rfl <;> rfl
theorem as57 (x : Value) (w : World) : (Instr.typeAssert (.iface 57 x) 54 57 true).run Yba.prog w = .ok (.tuple #[x, .bool true]) w := by kernel_rfl
theorem eq61 (w : World) : (binOp .eql 61 (.agg #[.int .i64 (-9), .string ⟨#[]⟩, .string ⟨#[]⟩, .string ⟨#[]⟩, .int .i64 0]) (.agg #[.int .i64 (-9), .string ⟨#[]⟩, .string ⟨#[]⟩, .string ⟨#[]⟩, .int .i64 0])).run Yba.prog w = .ok (.bool true) w := by kernel_rfl
theorem Yba.info29 : (Yba.prog.info? 29).map (fun i => (i.zero, i.size, i.bytes)) = some (some (.agg #[.string ⟨#[]⟩, .nilFunc, .slice none 0 0, .int .u8 0, .bool false, .int .i64 0, .int .i64 0, .int .i64 0]), 8, 80) := by kernel_rfl

set_option maxHeartbeats 4000000 in
set_option maxRecDepth 100000 in
theorem walkA (a0 : Int) (a1 : Bool) (a2 : Option Addr) (n c : Nat) (S : Nat → ByteArray) (w : World) (h00 : -9223372036854775808 ≤ a0) (h01 : a0 ≤ 9223372036854775807)
    (hn : n ≤ 1048576) (hS : n = 0 ∨ ∃ b off, a2 = some ⟨b, off, none⟩ ∧ b < w.heap.size ∧ ∀ i, i < n → w.cell? ⟨b, off + i, none⟩ = some (.string (S i))) :
    Calls Yba.prog 3 #[.int .i64 a0, .bool a1, .slice a2 n c] w fun e w' => e = .returned (.bool true) ∧ Below w.heap.size w w' := by
  obtain ⟨i24, hi24, hz0, hz1, hz2⟩ := info_parts Yba.info24
  have HA : Hid (n = 0 ∨ ∃ b off, a2 = some ⟨b, off, none⟩ ∧ b < w.heap.size ∧ ∀ i, i < n → w.cell? ⟨b, off + i, none⟩ = some (.string (S i))) := hS
  clear hS
  have H0 : Hid (-9223372036854775808 ≤ a0 ∧ a0 ≤ 9223372036854775807) := ⟨h00, h01⟩
  clear h00 h01
  go_enter Yba.func3, Yba.ntmps3
  go_wp2_with (at_make; refine wpList_make_full _ rfl (.tmp 21) (.tmp 21) 23 rfl w.heap.size 24 i24 (.pointer none) 1 Yba.underlying23 hi24 hz0 hz1 _ _ _ _ n rfl rfl rfl rfl ?ma ?mb (Nat.le_refl _) ?_)
  case ma => rw [hz2]; omega
  case mb => unfold maxLen; omega
  intro w1 hown1 hg1
  have hT1 : Toks w w1 w.heap.size w1.heap.size n S 0 := by
    rw [toList_madeCells_one] at hown1
    exact ⟨(Below.refl _ _).grown hg1 (Nat.le_refl _) (by intro k hk; cases hk), by simp [cnt], fun i hi => by omega, fun i _ hi => by rw [hown1.cellAt i (by omega)]; simp [hi], fun i _ => hown1.frozenAt i, fun i hi => by omega, fun i hi => by omega⟩
  have hlt1 : w.heap.size < w1.heap.size := (hown1.lt _ rfl).2
  clear hown1 hg1
  generalize w1.heap.size = B at *
  go_wp2_with fail
  go_loopw [8] (fun i wr => ∃ k : Nat, k ≤ n ∧ i = .int .i64 k ∧ Toks w wr w.heap.size B n S k) (fun i _ => n - (intOf i).toNat)
  case atStart => exact ⟨0, Nat.zero_le _, rfl, hT1⟩
  case round =>
    obtain ⟨k, hk, rfl, hT⟩ := hrel
    clear hT1
    by_cases hlt : k < n
    · as_aux_lemma =>
      obtain ⟨b, off, rfl, hb, hS⟩ := HA.out.resolve_left (by omega)
      have HS : Hid (∀ i, i < n → w.cell? ⟨b, off + i, none⟩ = some (.string (S i))) := hS
      clear hS HA
      have hxk : wr.cell? ⟨b, off + k, none⟩ = some (.string (S k)) := (hT.below.cell hb).trans (HS.out k hlt)
      cases hem : (S k).toList.isEmpty
      · have hold := hT.rest k (Nat.le_refl _) hlt
        have hfr := hT.free k hlt
        have hol : ∀ o, (wr.alloc o).cell? ⟨b, off + k, none⟩ = some (.string (S k)) := fun o => Lib.cell?_alloc_some o hxk
        have hltw : w.heap.size < wr.heap.size := by have := hT.size; omega
        go_wp2_with fail
        go_roundw
        case rel => exact ⟨k + 1, by omega, by go_num, hT.step hlt hem hlt1 (Nat.le_refl _)⟩
        case measure => simp [intOf]; omega
      · go_wp2_with fail
        go_roundw
        case rel => exact ⟨k + 1, by omega, by go_num, hT.skip hlt hem⟩
        case measure => simp [intOf]; omega
    · as_aux_lemma =>
      obtain rfl : k = n := by omega
      go_wp2_with (at_make; refine wpList_make_full _ rfl (.tmp 45) (.tmp 45) 23 rfl wr.heap.size 24 i24 (.pointer none) 1 Yba.underlying23 hi24 hz0 hz1 _ _ _ _ k rfl rfl rfl rfl ?mc ?md (Nat.le_refl _) ?_)
      case mc => rw [hz2]; omega
      case md => unfold maxLen; omega
      intro w3 hown3 hg3
      have hltw : w.heap.size < wr.heap.size := by have := hT.size; omega
      have hlt3 : wr.heap.size < w3.heap.size := (hown3.lt _ rfl).2
      have hb3 : Below w.heap.size w w3 := hT.below.grown hg3 hT.below.size (by intro k hk; cases hk)
      have htok3 : Hid (∀ i, i < k → w3.cell? ⟨w.heap.size, i, none⟩ = some (.pointer (tokP B S i))) := fun i hi => hg3.cell (hT.done i hi) (by simp)
      have hnam3 : Hid (∀ i, i < k → (S i).toList.isEmpty = false → w3.cell? ⟨B + cnt S i, 0, none⟩ = some (.string (S i))) := fun i hi hf => hg3.cell (hT.name i hi hf) (by simp)
      have hnum3 : Hid (∀ i, i < k → (S i).toList.isEmpty = false → w3.cell? ⟨B + cnt S i, 5, none⟩ = some (.int .i64 i)) := fun i hi hf => hg3.cell (hT.num i hi hf) (by simp)
      have hblw : Hid (∀ i, i < k → (S i).toList.isEmpty = false → B + cnt S i < wr.heap.size) := fun i hi hf => World.block_lt_of_cell? _ _ (hT.name i hi hf)
      obtain ⟨cur, hblk, hcl⟩ : ∃ cur : List Value, w3.heap[wr.heap.size]? = some (.cells cur.toArray 24 (0, 0)) ∧ cur.length = k := by
        rcases hown3.2 with ⟨h, _⟩ | ⟨g, cap, cur, h, _, hblk, _, _, hcs, _⟩
        · cases h
        · injection h with h1 h2 h3; injection h1 with h1; injection h1 with h1; subst h1; subst h3
          exact ⟨cur.toList, by simpa using hblk, by simpa using hcs⟩
      have hblk' : Hid (w3.heap[wr.heap.size]? = some (.cells cur.toArray 24 (0, 0))) := hblk
      obtain ⟨cs, hcs⟩ : ∃ cs : List Value, Hid (cs = (List.range k).map fun i => Value.pointer (tokP B S i)) := ⟨_, rfl⟩
      clear hown3 hg3 hblk hT
      generalize wr.heap.size = gk at *
      go_upto_region 10 with fail
      go_wp2_with (refine wpList_copy_splice rfl (.tmp 47) (.tmp 48) 23 23 rfl 24 Yba.underlying23 Yba.size24 _ _ _ _ _ _ rfl rfl gk 0 cur 24 hblk'.out cs ?ca ?cb ?cc ?cd gk w3 (Below.refl _ _) (Nat.le_refl _) ?_)
      case ca => rw [hcs.out]; simp
      case cb =>
        intro _ j v hj
        rw [hcs.out] at hj
        have hjn : j < k := by have := (List.getElem?_eq_some_iff.1 hj).1; simpa using this
        have := htok3.out j hjn
        simp [hjn] at hj
        rw [← hj]
        simpa using this
      case cc => rw [hcs.out]; simp; omega
      case cd => intro v hv; rw [hcs.out] at hv; obtain ⟨i, _, rfl⟩ := List.mem_map.1 hv; rfl
      intro w4 hrow hb4
      have hkeep4 : Hid (∀ i, i < k → w4.cell? ⟨gk, i, none⟩ = some (.pointer (tokP B S i))) := fun i hi => by
        have e : splice cur 0 cs = cs := by
          have : cs.length = k := by rw [hcs.out]; simp
          unfold splice
          rw [List.drop_eq_nil_of_le (by omega)]; simp
        have := hrow.out
        rw [e, hcs.out] at this
        simp [World.cell?, this, hi]
      have hb4' : Below w.heap.size w w4 := hb3.trans (hb4.mono (by omega))
      have htok4 : Hid (∀ i, i < k → w4.cell? ⟨w.heap.size, i, none⟩ = some (.pointer (tokP B S i))) := fun i hi => (hb4.cell hltw).trans (htok3.out i hi)
      have hnam4 : Hid (∀ i, i < k → (S i).toList.isEmpty = false → w4.cell? ⟨B + cnt S i, 0, none⟩ = some (.string (S i))) := fun i hi hf => (hb4.cell (hblw.out i hi hf)).trans (hnam3.out i hi hf)
      have hnum4 : Hid (∀ i, i < k → (S i).toList.isEmpty = false → w4.cell? ⟨B + cnt S i, 5, none⟩ = some (.int .i64 i)) := fun i hi hf => (hb4.cell (hblw.out i hi hf)).trans (hnum3.out i hi hf)
      clear htok3 hnam3 hnum3 hrow hcs hblk' hb3 hb4 hblw hcl
      obtain ⟨cells, hcells, hsize, h444⟩ := ev_cells (some ⟨w.heap.size, 0, none⟩) k k
      have HC : Hid (Yba.prog.built 52 [(36, .slice (some ⟨w.heap.size, 0, none⟩) k k)] = some cells) := hcells
      have H444 : Hid (cells[444]? = some (.slice (some ⟨w.heap.size, 0, none⟩) k k)) := h444
      clear hcells h444 hsize
      go_upto_region 11 with fail
      go_cut [10] from 50 to 52 (fun v wx => v = .pointer (some ⟨w4.heap.size, 0, none⟩) ∧ wx = w4.alloc (.cells cells 52))
      case first =>
        go_wp2_with (refine wpList_build_as rfl 52 #[(36, .tmp 50)] rfl cells ?hb ?_)
        case hb => exact HC.out
        go_wp2_with fail
        go_meet
        case rel => exact ⟨rfl, rfl⟩
      case rest =>
        as_aux_lemma =>
        obtain ⟨rfl, hwc⟩ := hcut
        have tab : Tab w wc w.heap.size gk w4.heap.size B k S := by
          rw [hwc]
          refine ⟨hb4'.alloc hb4'.size _, fun i hi => Lib.cell?_alloc_some _ (htok4.out i hi), fun i hi => Lib.cell?_alloc_some _ (hkeep4.out i hi), ?_, fun i hi hf => Lib.cell?_alloc_some _ (hnam4.out i hi hf), fun i hi hf => Lib.cell?_alloc_some _ (hnum4.out i hi hf)⟩
          simp only [World.cell?, heap_alloc_new]
          exact H444.out
        clear hwc hb4' htok4 hkeep4 hnam4 hnum4 HC H444
        generalize w4.heap.size = ge at *
        obtain ⟨i29, hi29, _, _, _⟩ := info_parts Yba.info29
        go_upto_if 54 with fail
        go_cut [11] from 55 to 56 (fun v wx => (∃ q : Int, v = .int .i64 q ∧ -9223372036854775808 ≤ q ∧ q ≤ 9223372036854775807) ∧ wc = wx)
        case first =>
          cases a1
          · go_wp2_with fail
            go_meet
            case rel => exact ⟨⟨_, rfl, H0.out.1, H0.out.2⟩, rfl⟩
          · go_wp2_with fail
            go_meet
            case rel => exact ⟨near_ok H0.out.1 H0.out.2, rfl⟩
        case rest =>
        as_aux_lemma =>
        obtain ⟨⟨q, rfl, hq0, hq1⟩, rfl⟩ := hcut
        clear H0
        by_cases hin : 4294967296 ≤ q ∧ q < 4294967296 + k
        · obtain ⟨j, hj, rfl⟩ : ∃ j : Nat, j < k ∧ q = 4294967296 + j := ⟨(q - 4294967296).toNat, by omega, by omega⟩
          clear hin hq0 hq1
          go_wp2_with fail
          refine (wordOf_in ge w.heap.size k k j (tokP B S j) _ hj hn tab.ev (tab.toks j hj)).mono ?_
          rintro e w5 ⟨rfl, hw⟩
          rw [hw]
          clear hw
          have t0 := tab.ev
          have tab2 := tab
          clear tab
          go_wp2_with fail
          go_loopw [14] (fun i wx => ∃ k' : Nat, k' ≤ k ∧ i = .int .i64 k' ∧ Tab w wx w.heap.size gk ge B k S) (fun i _ => k - (intOf i).toNat)
          case atStart => exact ⟨0, Nat.zero_le _, rfl, tab2⟩
          case round =>
            as_aux_lemma =>
            obtain ⟨k', hk', rfl, tab3⟩ := hrel
            clear tab2
            by_cases hlt' : k' < k
            · obtain ⟨b, off, rfl, hb, hS⟩ := HA.out.resolve_left (by omega)
              have HS : Hid (∀ i, i < k → w.cell? ⟨b, off + i, none⟩ = some (.string (S i))) := hS
              clear hS HA
              have hxk : wr.cell? ⟨b, off + k', none⟩ = some (.string (S k')) := (tab3.below.cell hb).trans (HS.out k' hlt')
              have t0 := tab3.ev
              have t1 := tab3.toks k' hlt'
              have t2 := tab3.keep k' hlt'
              cases hem : (S k').toList.isEmpty
              · rw [tokP_full hem] at t1 t2
                have t3 := tab3.name k' hlt' hem
                have t4 := tab3.num k' hlt' hem
                generalize B + cnt S k' = bw at *
                have hpn : ∀ w, (binOp .neq 24 (.pointer (some ⟨bw, 0, none⟩)) (.pointer (some ⟨bw, 0, none⟩))).run Yba.prog w = .ok (.bool false) w := fun w => Lib.run_neq_ptr_same w _ Yba.underlying24 hi29
                go_wp2_with fail
                go_quiet (fail)
                go_wp2_with fail
                go_quiet (fail)
                go_wp2_with fail
                go_roundw
                case rel => exact ⟨k' + 1, by omega, by go_num, tab3.drewN _⟩
                case measure => simp [intOf]; omega
              · rw [tokP_empty hem] at t1 t2
                go_wp2_with fail
                go_quiet (fail)
                go_wp2_with fail
                go_quiet (fail)
                go_wp2_with fail
                go_roundw
                case rel => exact ⟨k' + 1, by omega, by go_num, tab3.drewN _⟩
                case measure => simp [intOf]; omega
            · as_aux_lemma =>
              have t2 := tab3.keep j hj
              have hle : (4294967296 : Int) ≤ 4294967296 + (j : Int) := by omega
              cases hem : (S j).toList.isEmpty
              · rw [tokP_full hem] at t2 ⊢
                generalize B + cnt S j = bw at *
                have hpe : ∀ w, (binOp .eql 24 (.pointer (some ⟨bw, 0, none⟩)) (.pointer (some ⟨bw, 0, none⟩))).run Yba.prog w = .ok (.bool true) w := fun w => run_eql_ptr_same w _ Yba.underlying24 hi29
                go_wp2
                go_ret
                exact ⟨rfl, tab3.below⟩
              · rw [tokP_empty hem] at t2 ⊢
                go_wp2
                go_ret
                exact ⟨rfl, tab3.below⟩
        · have hout : q < 4294967296 ∨ 4294967296 + (k : Int) ≤ q := by omega
          go_wp2_with fail
          refine (wordOf_out ge w.heap.size k k q _ hn hq0 hq1 hout tab.ev).mono ?_
          rintro e w5 ⟨rfl, hw⟩
          have tab2 : Tab w w5 w.heap.size gk ge B k S := by rw [hw]; exact tab.alloc _
          have herr : Hid (∀ i, i < 5 → w5.cell? ⟨wc.heap.size, i, none⟩ = some (errC i)) := fun i hi => by
            rw [hw]
            simp only [World.cell?, heap_alloc_new]
            exact err_cells i hi
          clear hw tab
          generalize wc.heap.size = g9 at *
          have t0 := tab2.ev
          go_wp2_with fail
          go_loopw [14] (fun i wx => ∃ k' : Nat, k' ≤ k ∧ i = .int .i64 k' ∧ Tab w wx w.heap.size gk ge B k S ∧ ∀ i, i < 5 → wx.cell? ⟨g9, i, none⟩ = some (errC i)) (fun i _ => k - (intOf i).toNat)
          case atStart => exact ⟨0, Nat.zero_le _, rfl, tab2, herr.out⟩
          case round =>
            as_aux_lemma =>
            obtain ⟨k', hk', rfl, tab3, herr3'⟩ := hrel
            have herr3 : Hid (∀ i, i < 5 → wr.cell? ⟨g9, i, none⟩ = some (errC i)) := herr3'
            clear herr3'
            clear tab2 herr
            by_cases hlt' : k' < k
            · obtain ⟨b, off, rfl, hb, hS⟩ := HA.out.resolve_left (by omega)
              have HS : Hid (∀ i, i < k → w.cell? ⟨b, off + i, none⟩ = some (.string (S i))) := hS
              clear hS HA
              have hxk : wr.cell? ⟨b, off + k', none⟩ = some (.string (S k')) := (tab3.below.cell hb).trans (HS.out k' hlt')
              have t0 := tab3.ev
              have t1 := tab3.toks k' hlt'
              have t2 := tab3.keep k' hlt'
              cases hem : (S k').toList.isEmpty
              · rw [tokP_full hem] at t1 t2
                have t3 := tab3.name k' hlt' hem
                have t4 := tab3.num k' hlt' hem
                generalize B + cnt S k' = bw at *
                have hpn : ∀ w, (binOp .neq 24 (.pointer (some ⟨bw, 0, none⟩)) (.pointer (some ⟨bw, 0, none⟩))).run Yba.prog w = .ok (.bool false) w := fun w => Lib.run_neq_ptr_same w _ Yba.underlying24 hi29
                go_wp2_with fail
                go_quiet (fail)
                go_wp2_with fail
                go_quiet (fail)
                go_wp2_with fail
                go_roundw
                case rel => exact ⟨k' + 1, by omega, by go_num, tab3.drewN _, herr3.out⟩
                case measure => simp [intOf]; omega
              · rw [tokP_empty hem] at t1 t2
                go_wp2_with fail
                go_quiet (fail)
                go_wp2_with fail
                go_quiet (fail)
                go_wp2_with fail
                go_roundw
                case rel => exact ⟨k' + 1, by omega, by go_num, tab3.drewN _, herr3.out⟩
                case measure => simp [intOf]; omega
            · as_aux_lemma =>
              have e0 := herr3.out 0 (by omega); have e1 := herr3.out 1 (by omega); have e2 := herr3.out 2 (by omega); have e3 := herr3.out 3 (by omega); have e4 := herr3.out 4 (by omega)
              simp [errC] at e0 e1 e2 e3 e4
              have ha := as57
              have hq4 := eq61
              by_cases hq5 : q < 4294967296
              · go_wp2
                go_ret
                exact ⟨rfl, tab3.below⟩
              · go_wp2
                go_ret
                exact ⟨rfl, tab3.below⟩

end Go.Proofs.Ybulkefxw
