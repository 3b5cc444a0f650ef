/-
  The walk of LawS6611BWhole.
-/
import Derived.Test.YbulkefwuParts
import Derived.WalkKit
import Derived.ProofKit
import Derived.OpenShut
import Derived.Below
import Derived.BigQuiet
import Derived.Deep.QuietTactic
import Derived.Deep.DeepCutAuto
import Derived.Deep.CutBlock
import Derived.Lib.Builder
namespace Go.Proofs.Ybulkefwu.lawS6611BWhole
open Go.RowKit Go.Lib

/-- WHAT THE WALK IS TOLD OF A SLICE OF INTEGERS THAT CAME IN: it is nil; or it leads to a row of 'cap' cells, the numbers 'zs' (the first 'len' are its elements, the rest its spare room), each fitting its kind. -/
def IsRow (k : IntKind) (w : World) (a : Option Addr) (len cap : Nat) (zs : List Int) : Prop :=
  (a = none ∧ len = 0 ∧ cap = 0 ∧ zs = []) ∨
  ∃ x, a = some x ∧ len ≤ cap ∧ cap ≤ maxLen ∧ zs.length = cap ∧ (∀ i, i < zs.length → w.cell? (x.add i) = some (.int k (zs.getD i 0))) ∧ ∀ n ∈ zs, (Lit.int k n).wf = true

/-- Too long: true at once. -/
theorem walk_long (a0 : Option Addr) (len0 cap0 : Nat) (a1 : ByteArray) (a2 : Bool) (w : World) (hl : len0 ≤ maxLen) (w1 : a1.size ≤ maxLen) (h : 1048576 < len0 ∨ 1048576 < a1.size) :
    Calls Yba.prog 3 #[.slice a0 len0 cap0, .string a1, .bool a2] w fun e w' => e = .returned (.bool true) ∧ Below w.heap.size w w' := by
  unfold maxLen at hl w1
  by_cases h0 : 1048576 < len0
  · go_enter Yba.func3, Yba.ntmps3
    go_wp2
    go_ret
    exact ⟨rfl, Below.refl _ _⟩
  · have h1 : 1048576 < a1.size := by omega
    go_enter Yba.func3, Yba.ntmps3
    go_wp2
    go_ret
    exact ⟨rfl, Below.refl _ _⟩

/-- bytes.Equal of two slices of the same bytes. -/
theorem equal_same (g g2 n c c2 : Nat) (xs : List Int) (w : World) (hx : xs.length = n) (h1 : ∀ i, i < n → w.cell? ⟨g, i, none⟩ = some (.int .u8 (xs.getD i 0))) (h2 : ∀ i, i < n → w.cell? ⟨g2, i, none⟩ = some (.int .u8 (xs.getD i 0))) :
    Calls Yba.prog 6 #[.slice (some ⟨g, 0, none⟩) n c, .slice (some ⟨g2, 0, none⟩) n c2] w fun e w' => e = .returned (.bool true) ∧ w' = w := by
  refine (equal_strs _ _ (strOfNums xs) (strOfNums xs) w (run_convert_bytes_arg w 22 5 Yba.underlying22 Yba.underlying5 g 0 n c xs hx (fun i hi => by rw [Nat.zero_add]; exact h1 i hi) 9 Yba.underlying9) (run_convert_bytes_arg w 22 5 Yba.underlying22 Yba.underlying5 g2 0 n c2 xs hx (fun i hi => by rw [Nat.zero_add]; exact h2 i hi) 9 Yba.underlying9)).mono ?_
  rintro e w' ⟨rfl, rfl⟩
  exact ⟨by simp, rfl⟩

theorem strCells_map (s : ByteArray) : strCells s = (s.data.toList.map (fun b => (b.toNat : Int))).map (Value.int .u8) := by
  simp [strCells, List.map_map]
theorem bytes_range (s : ByteArray) : ∀ x ∈ s.data.toList.map (fun b => (b.toNat : Int)), (0:Int) ≤ x ∧ x ≤ 255 := by
  intro x hx
  obtain ⟨b, _, rfl⟩ := List.mem_map.1 hx
  have := b.toNat_lt
  omega

/-- What 'in' is, behind its making. -/
def InIs (w wr : World) (v : Value) : Prop :=
  ∃ (n : Nat) (xs : List Int), wr.ownsRow w.heap.size 5 1 v n (xs.map (Value.int .u8)) ∧ (∀ x ∈ xs, (0:Int) ≤ x ∧ x ≤ 255) ∧ n ≤ 2097152 ∧ Below w.heap.size w wr

set_option maxHeartbeats 1000000 in
set_option maxRecDepth 100000 in
theorem walk_short (a0 : Option Addr) (len0 cap0 : Nat) (z0 : List Int) (a1 : ByteArray) (a2 : Bool) (w : World) (w0 : IsRow .u8 w a0 len0 cap0 z0) (h0 : len0 ≤ 1048576) (h1 : a1.size ≤ 1048576) :
    Calls Yba.prog 3 #[.slice a0 len0 cap0, .string a1, .bool a2] w fun e w' => e = .returned (.bool true) ∧ Below w.heap.size w w' := by
  obtain ⟨i0, hi, hz0, hz1, hz2⟩ := info_parts Yba.info5
  have q22 := eqlNil
  go_enter Yba.func3, Yba.ntmps3
  go_upto_if 24 with fail
  go_cut [7] (fun v wr => InIs w wr v)
  case first =>
    rcases w0 with ⟨rfl, rfl, rfl, rfl⟩ | ⟨x, rfl, hlc, hcm, hzl, hcell, hwf⟩
    · cases a2
      · go_wp2_with fail
        refine (clone_nil _ _ _).mono ?_
        rintro e w1 ⟨rfl, hw⟩
        subst hw
        go_wp2_with fail
        go_meet
        case rel => exact ⟨0, [], World.ownsRow_nil _ _ _ _, by simp, by omega, Below.refl _ _⟩
      · go_wp2_with fail
        refine (clone_nil _ _ _).mono ?_
        rintro e w1 ⟨rfl, hw⟩
        subst hw
        go_wp2_with (at_builtin; refine wpList_append_own_string _ rfl (.tmp 26) (.tmp 27) 22 9 rfl _ 5 i0 Yba.underlying22 Yba.underlying9 hi hz0 hz1 hz2 _ 0 [] rfl (World.ownsRow_nil _ _ _ _) a1 rfl ?sa ?sb (Nat.le_refl _) ?_)
        case sa => unfold maxLen; omega
        case sb => omega
        intro v1 w2 hown hgr _
        go_wp2_with fail
        go_meet
        case rel =>
          refine ⟨a1.size, a1.data.toList.map (fun b => (b.toNat : Int)), ?_, bytes_range a1, by omega, (Below.refl _ _).grown hgr (Nat.le_refl _) (by simp [Value.ownBlock])⟩
          simpa [strCells_map] using hown
    · have hxl : (z0.take len0).length = len0 := by rw [List.length_take]; omega
      have hrange : ∀ x ∈ z0.take len0, (0:Int) ≤ x ∧ x ≤ 255 := fun x hx => bounds_u8 (hwf x (List.mem_of_mem_take hx))
      have hcells : Hid (∀ i, i < len0 → w.cell? (x.add i) = some (.int .u8 ((z0.take len0).getD i 0))) := fun i hi => by
        rw [hcell i (by omega)]; simp [List.getD, hi]
      clear hcell hwf
      unfold maxLen at hcm
      generalize z0.take len0 = ys at *
      cases a2
      · go_wp2_with fail
        refine (clone_at x len0 cap0 ys _ hxl (by omega) hcells.out).mono ?_
        rintro e w1 ⟨v1, rfl, hown, _, hb⟩
        go_wp2_with fail
        go_meet
        case rel => exact ⟨len0, ys, hown, hrange, by omega, hb⟩
      · go_wp2_with fail
        refine (clone_at x len0 cap0 ys _ hxl (by omega) hcells.out).mono ?_
        rintro e w1 ⟨v1, rfl, hown, _, hb⟩
        have hbs := hb.size
        go_wp2_with (at_builtin; refine wpList_append_own_string _ rfl (.tmp 26) (.tmp 27) 22 9 rfl w.heap.size 5 i0 Yba.underlying22 Yba.underlying9 hi hz0 hz1 hz2 _ len0 _ rfl hown a1 rfl ?sa ?sb ?sc ?_)
        case sa => unfold maxLen; omega
        case sb => omega
        case sc => exact hbs
        intro v2 w2 hown2 hgr _
        go_wp2_with fail
        go_meet
        case rel =>
          refine ⟨len0 + a1.size, ys ++ a1.data.toList.map (fun b => (b.toNat : Int)), ?_, ?_, by omega, hb.grown hgr hbs (fun k hk => (hown.lt k hk).1)⟩
          · simpa [strCells_map] using hown2
          · intro x hx
            rcases List.mem_append.1 hx with h | h
            · exact hrange x h
            · exact bytes_range a1 x h
  case rest =>
    obtain ⟨n, xs, hown, hr, hn, hb⟩ := hcut
    have hxl : xs.length = n := by have := hown.1; simpa using this
    rcases hown.2 with ⟨rfl, rfl⟩ | ⟨g, cap, cur, rfl, hge, hblk, hnc, hcm, hcs, htk⟩
    · clear hown hr hxl
      have hkn : ∀ w l c, (convert 22 9 (.slice none l c)).run Yba.prog w = .ok (.string ByteArray.empty) w := fun w l c => run_convert_bytes_nil w 22 5 Yba.underlying22 Yba.underlying5 l c 9 Yba.underlying9
      go_wp2_with fail
      refine (clone_nil _ _ _).mono ?_
      rintro e w1 ⟨rfl, hw⟩
      subst hw
      by_cases hs : a1.size = 0
      · obtain rfl : a1 = ByteArray.empty := ByteArray.size_eq_zero_iff.1 hs
        clear hs
        go_wp2_with fail
        refine wp_loop_rounds 1 ?_
        rw [rounds_succ]
        go_wp2_with fail
        refine (cut_nil _ _ rfl).mono ?_
        rintro e w3 ⟨rfl, hw⟩
        subst hw
        go_wp2_with fail
        refine (equal_strs _ _ ByteArray.empty ByteArray.empty _ (hkn _ _ _) (hkn _ _ _)).mono ?_
        rintro e w3 ⟨rfl, hw⟩
        subst hw
        go_wp2_with fail
        refine wp_loop_rounds 1 ?_
        rw [rounds_succ]
        go_wp2_with fail
        go_quiet (fail)
        go_wp2
        go_ret
        exact ⟨rfl, below_drewN hb _⟩
      · have hs1 : 0 < a1.size := by omega
        go_wp2_with fail
        refine (cut_short _ _ _ _ _ hs1).mono ?_
        rintro e w3 ⟨rfl, hw⟩
        subst hw
        go_wp2_with fail
        refine (equal_strs _ _ ByteArray.empty ByteArray.empty _ (hkn _ _ _) (hkn _ _ _)).mono ?_
        rintro e w3 ⟨rfl, hw⟩
        subst hw
        go_wp2_with fail
        refine wp_loop_rounds 1 ?_
        rw [rounds_succ]
        go_wp2_with fail
        go_quiet (fail)
        go_wp2
        go_ret
        exact ⟨rfl, below_drewN hb _⟩
    · have hc1 : Hid (∀ i, i < n → wc.cell? ⟨g, i, none⟩ = some (.int .u8 (xs.getD i 0))) := fun i hi => by
        rw [hown.cellAt i (by omega)]; simp [List.getD, List.getElem?_eq_getElem (show i < xs.length by omega)]
      have hglt : g < wc.heap.size := by have := (hown.lt g rfl).2; exact this
      clear hblk hcs htk hown hcm
      go_wp2_with fail
      refine (clone_at ⟨g, 0, none⟩ n cap xs _ hxl (by omega) (fun i hi => by rw [Addr.add_lit]; simpa using hc1.out i hi)).mono ?_
      rintro e w2 ⟨v2, rfl, hown2, hne, hb2⟩
      rcases hown2.2 with ⟨rfl, _⟩ | ⟨g2, cap2, cur2, rfl, _, _, hnc2, hcm2, _, _⟩
      · exact absurd rfl hne
      have hrd : Rd w w2 g g2 n xs := ⟨hb.trans (hb2.mono hb.size), fun i hi => (hb2.cell hglt).trans (hc1.out i hi), fun i hi => by
        rw [hown2.cellAt i (by omega)]; simp [List.getD, List.getElem?_eq_getElem (show i < xs.length by omega)]⟩
      clear hc1 hne hown2 hb2 hb hglt hge hcm2
      go_upto_if 38 with fail
      go_cut [9] (fun v wx => v = .bool (endsB xs n a1) ∧ Rd w wx g g2 n xs)
      case first =>
        by_cases hlt : n < a1.size
        · go_wp2_with fail
          go_meet
          case rel => exact ⟨by simp [endsB_short hlt]; omega, hrd⟩
        · go_wp2_with fail
          go_loopw [9, 11] (fun v i wx => ∃ k : Nat, k ≤ a1.size ∧ i = .int .i64 k ∧ v = .bool true ∧ Rd w wx g g2 n xs ∧ ∀ j (h : j < a1.size), j < k → xs.getD (n - a1.size + j) 0 = ((a1[j]'h).toNat : Int)) (fun _ i _ => a1.size - (intOf i).toNat)
          case atStart => exact ⟨0, Nat.zero_le _, rfl, by simp; omega, hrd, fun j _ h => by omega⟩
          case round =>
            obtain ⟨k, hk, rfl, rfl, hrk, hall⟩ := hrel
            by_cases hkl : k < a1.size
            · have hcx := hrk.c1 (n - a1.size + k) (by omega)
              have hAll : Hid (∀ j (h : j < a1.size), j < k → xs.getD (n - a1.size + j) 0 = ((a1[j]'h).toNat : Int)) := hall
              clear hall
              go_wp2_with fail
              go_quiet (fail)
              go_wp2_with fail
              · go_meet
                case rel =>
                  have hne : (xs[n - a1.size + k]?.getD 0 != (a1[k].toNat : Int)) = true := by assumption
                  exact ⟨by rw [endsB_false hxl (by omega) hr k hkl (by simpa [List.getD] using hne)], hrk.drewN _⟩
              · go_roundw
                case rel =>
                  have heq : (xs[n - a1.size + k]?.getD 0 != (a1[k].toNat : Int)) = false := by assumption
                  refine ⟨k + 1, by omega, by go_num, rfl, hrk.drewN _, fun j h hj => ?_⟩
                  by_cases hjk : j = k
                  · subst hjk; simpa [List.getD] using heq
                  · exact hAll.out j h (by omega)
                case measure => simp [intOf]; omega
            · go_wp2_with fail
              go_meet
              case rel => exact ⟨by rw [endsB_true hxl (by omega) (fun i hi => hall i hi (by omega))], hrk⟩
      case rest =>
        obtain ⟨rfl, hrk⟩ := hcut
        have hpn : ∀ w, (binOp .neq 27 (.pointer (some ⟨g, 0, none⟩)) (.pointer (some ⟨g, 0, none⟩))).run Yba.prog w = .ok (.bool false) w := fun w => Lib.run_neq_ptr_same w _ Yba.underlying27 hi
        have hcut := cut_any g n cap xs a1 wc hxl hnc (by omega) hrk.c1
        have hle : endsB xs n a1 = true → a1.size ≤ n := fun h => by
          rcases Nat.lt_or_ge n a1.size with h' | h'
          · rw [endsB_short h'] at h; cases h
          · exact h'
        generalize endsB xs n a1 = f at *
        cases f
        · have hcut' : Hid (Calls Yba.prog 5 #[.slice (some ⟨g, 0, none⟩) n cap, .string a1] wc fun e w' => e = .returned (.tuple #[.slice (some ⟨g, 0, none⟩) n cap, .bool false]) ∧ w' = wc) := hcut
          clear hcut hle
          go_wp2_with fail
          refine hcut'.out.mono ?_
          rintro e w3 ⟨rfl, hw⟩
          subst hw
          go_wp2_with fail
          refine (equal_same g g2 n cap cap2 xs _ hxl hrk.c1 hrk.c2).mono ?_
          rintro e w4 ⟨rfl, hw⟩
          subst hw
          go_wp2_with fail
          go_loopw [15] (fun i wx => ∃ k : Nat, k ≤ n ∧ i = .int .i64 k ∧ Rd w wx g g2 n xs) (fun i _ => n - (intOf i).toNat)
          case atStart => exact ⟨0, Nat.zero_le _, rfl, hrk⟩
          case round =>
            obtain ⟨k, hk, rfl, hrw⟩ := hrel
            by_cases hkl : k < n
            · have e1 := hrw.c1 k hkl
              have e2 := hrw.c2 k hkl
              go_wp2_with fail
              go_quiet (fail)
              go_wp2_with fail
              go_roundw
              case rel => exact ⟨k + 1, by omega, by go_num, hrw.drewN _⟩
              case measure => simp [intOf]; omega
            · by_cases hn0 : 0 < n
              · go_wp2_with fail
                go_quiet (fail)
                go_wp2
                go_ret
                exact ⟨rfl, (hrw.drewN _).below⟩
              · have hd : decide ((0 : Int) < (n : Int)) = false := decide_eq_false (by omega)
                go_wp2_with fail
                go_quiet (fail)
                go_wp2
                go_ret
                exact ⟨rfl, (hrw.drewN _).below⟩
        · have hle' := hle rfl
          have hcut' : Hid (Calls Yba.prog 5 #[.slice (some ⟨g, 0, none⟩) n cap, .string a1] wc fun e w' => e = .returned (.tuple #[.slice (some ⟨g, 0, none⟩) (n - a1.size) cap, .bool true]) ∧ w' = wc) := hcut
          clear hcut hle
          go_wp2_with fail
          refine hcut'.out.mono ?_
          rintro e w3 ⟨rfl, hw⟩
          subst hw
          go_wp2_with fail
          refine (equal_same g g2 n cap cap2 xs _ hxl hrk.c1 hrk.c2).mono ?_
          rintro e w4 ⟨rfl, hw⟩
          subst hw
          go_wp2_with fail
          go_loopw [15] (fun i wx => ∃ k : Nat, k ≤ n - a1.size ∧ i = .int .i64 k ∧ Rd w wx g g2 n xs) (fun i _ => n - a1.size - (intOf i).toNat)
          case atStart => exact ⟨0, Nat.zero_le _, rfl, hrk⟩
          case round =>
            obtain ⟨k, hk, rfl, hrw⟩ := hrel
            by_cases hkl : k < n - a1.size
            · have e1 := hrw.c1 k (by omega)
              have e2 := hrw.c2 k (by omega)
              go_wp2_with fail
              go_quiet (fail)
              go_wp2_with fail
              go_roundw
              case rel => exact ⟨k + 1, by omega, by go_num, hrw.drewN _⟩
              case measure => simp [intOf]; omega
            · by_cases hn0 : 0 < n - a1.size
              · have x1 : (a1.size : Int) < (n : Int) := by omega
                have x2 : decide (a1.size < n) = true := decide_eq_true (by omega)
                go_wp2_with fail
                go_quiet (fail)
                go_wp2
                go_ret
                exact ⟨rfl, (hrw.drewN _).below⟩
              · have hd : decide ((0 : Int) < (n : Int) - (a1.size : Int)) = false := decide_eq_false (by omega)
                have x1 : decide ((a1.size : Int) < (n : Int)) = false := decide_eq_false (by omega)
                have x2 : decide (a1.size < n) = false := decide_eq_false (by omega)
                go_wp2_with fail
                go_quiet (fail)
                go_wp2
                go_ret
                exact ⟨rfl, (hrw.drewN _).below⟩

theorem walk (a0 : Option Addr) (len0 cap0 : Nat) (z0 : List Int) (a1 : ByteArray) (a2 : Bool) (w : World) (w0 : IsRow .u8 w a0 len0 cap0 z0) (w1 : a1.size ≤ maxLen) :
    Calls Yba.prog 3 #[.slice a0 len0 cap0, .string a1, .bool a2] w fun e w' => e = .returned (.bool true) ∧ Below w.heap.size w w' := by
  by_cases h : 1048576 < len0 ∨ 1048576 < a1.size
  · have hl : len0 ≤ maxLen := by
      rcases w0 with ⟨_, rfl, _, _⟩ | ⟨_, _, h1, h2, _⟩
      · exact Nat.zero_le _
      · exact Nat.le_trans h1 h2
    exact walk_long a0 len0 cap0 a1 a2 w hl w1 h
  · exact walk_short a0 len0 cap0 z0 a1 a2 w w0 (by omega) (by omega)

end Go.Proofs.Ybulkefwu.lawS6611BWhole
