/-
  The walk of LawS6619BWhole (function 3).
-/
import Derived.Test.YbulkegbcDoorModel
import Derived.Deep.CutBlock
import Derived.Laws.CopyOwn
import Derived.DeepKeys
namespace Go.Proofs.YbulkegbcDoor
open Go.RowKit Go.Lib

theorem Ybad.info5 : (Ybad.prog.info? 5).map (fun i => (i.zero, i.size, i.bytes)) = some (some (.int .u8 0), 1, 1) := by kernel_rfl
theorem Ybad.size5 : (Ybad.prog.info? 5).map (·.size) = some 1 := by kernel_rfl
theorem info_parts {t s b : Nat} {z : Value} (h : (Ybad.prog.info? t).map (fun i => (i.zero, i.size, i.bytes)) = some (some z, s, b)) : ∃ i, Ybad.prog.info? t = some i ∧ i.zero = some z ∧ i.size = s ∧ i.bytes = b := by
  obtain ⟨i, hi, he⟩ := Option.map_eq_some_iff.1 h
  exact ⟨i, hi, (Prod.mk.inj he).1, (Prod.mk.inj (Prod.mk.inj he).2).1, (Prod.mk.inj (Prod.mk.inj he).2).2⟩
theorem opt_cases (a : Option Addr) : a = none ∨ ∃ x, a = some x := by
  cases a with
  | none => exact .inl rfl
  | some x => exact .inr ⟨x, rfl⟩
theorem Lies.drewN {w : World} {a : Option Addr} {n : Nat} {X : Nat → Int} (h : Lies w a n X) (m : Nat) : Lies (w.drewN m) a n X := h
theorem below_drewN {B : Nat} {a w : World} (h : Below B a w) (m : Nat) : Below B a (w.drewN m) := ⟨h.os, h.tape, h.output, h.size, h.block⟩

set_option maxHeartbeats 1000000 in
theorem walk_long (a : Option Addr) (n c0 : Nat) (tag : Int) (w : World) (hn : 1048576 < n) (hm : n ≤ maxLen) :
    Calls Ybad.prog 3 #[.slice a n c0, .int .u64 tag] w fun e w' => e = .returned (.bool true) ∧ w' = w := by
  unfold maxLen at hm
  go_enter Ybad.func3, Ybad.ntmps3
  go_wp2
  go_ret
  exact ⟨rfl, rfl⟩

set_option maxHeartbeats 8000000 in
set_option maxRecDepth 100000 in
theorem walk_short (a : Option Addr) (n c0 : Nat) (tag : Int) (X : Nat → Int) (w : World) (hn : n ≤ 1048576) (hnc : n ≤ c0) (h0 : 0 ≤ tag) (h1 : tag ≤ 18446744073709551615) (h : Lies w a n X) (hX : ∀ i, 0 ≤ X i ∧ X i ≤ 255) (hz : a = none → n = 0) (he : Errs w) :
    Calls Ybad.prog 3 #[.slice a n c0, .int .u64 tag] w fun e w' => e = .returned (.bool true) ∧ Below w.heap.size w w' := by
  obtain ⟨R, hR⟩ : ∃ R, Hid (run X n tag (n + 1) 0 tag 0 = R) := ⟨_, rfl⟩
  have HL : Hid (Lies w a n X) := h
  have HX : Hid (∀ i, 0 ≤ X i ∧ X i ≤ 255) := hX
  have HE : Hid (Errs w) := he
  have HZ : Hid (a = none → n = 0) := hz
  clear h hX he hz
  have q22 : ∀ (w : World) (a : Option Addr) (n c n' c' : Nat), (binOp .neq 22 (.slice a n c) (.slice none n' c')).run Ybad.prog w = .ok (.bool (!a.isNone)) w := fun w a n c n' c' => run_neq_slice_nil_any w _ _ a n c n' c' Ybad.underlying22
  go_enter Ybad.func3, Ybad.ntmps3
  go_upto_if 13 with fail
  go_cut [5] from 12 to 19 (fun v wx => ∃ q : Option Addr, v = .slice q n n ∧ Below w.heap.size w wx ∧ Lies wx q n X)
  case first =>
    as_aux_lemma =>
    rcases opt_cases a with rfl | ⟨x6, rfl⟩
    · have hz : Hid (n = 0) := HZ.out rfl
      clear HZ HL
      go_wp2_with fail
      go_meet
      case rel => exact ⟨none, by rw [hz.out], Below.refl _ _, .inl hz.out⟩
    · obtain ⟨iE, hiE, hzE0, hzE1, hzE2⟩ := info_parts Ybad.info5
      have hsrc : Hid (n = 0 ∨ ∃ b off, x6 = (⟨b, off, none⟩ : Addr) ∧ b < w.heap.size ∧ ∀ i, i < n → w.cell? ⟨b, off + i, none⟩ = some (.int .u8 (X i))) := by
        rcases HL.out with h | ⟨b, off, he, hlt, hc⟩
        · exact .inl h
        · exact .inr ⟨b, off, by injection he, hlt, hc⟩
      clear HL HZ
      go_wp2_with (at_make; refine wpList_make_full _ rfl (.tmp 15) (.tmp 15) 22 rfl w.heap.size 5 iE (.int .u8 0) 1 Ybad.underlying22 hiE hzE0 hzE1 _ _ _ _ n rfl rfl rfl rfl ?ma ?mb (Nat.le_refl _) ?_)
      case ma => rw [hzE2]; omega
      case mb => unfold maxLen; omega
      intro w1 hown1 hg1
      have hbm : Below w.heap.size w w1 := (Below.refl _ _).grown hg1 (Nat.le_refl _) (by intro k hk; cases hk)
      have hltm : w.heap.size < w1.heap.size := (hown1.lt _ rfl).2
      obtain ⟨cur, hblk, hcl⟩ : ∃ cur : List Value, w1.heap[w.heap.size]? = some (.cells cur.toArray 5 (0, 0)) ∧ cur.length = n := by
        rcases hown1.2 with ⟨h, _⟩ | ⟨g, cap, cur, h, _, hblk, _, _, hcs, _⟩
        · cases h
        · injection h with h1 h2 h3; injection h1 with h1; injection h1 with h1; subst h1; subst h3
          exact ⟨cur.toList, by simpa using hblk, by simpa using hcs⟩
      have hblk' : Hid (w1.heap[w.heap.size]? = some (.cells cur.toArray 5 (0, 0))) := hblk
      obtain ⟨cs, hcs⟩ : ∃ cs : List Value, Hid (cs = (List.range n).map fun i => Value.int .u8 (X i)) := ⟨_, rfl⟩
      clear hown1 hg1 hblk
      go_upto_region 6 with fail
      go_wp2_with (refine wpList_copy_splice rfl (.tmp 17) (.tmp 18) 22 22 rfl 5 Ybad.underlying22 Ybad.size5 _ _ _ _ _ _ rfl rfl w.heap.size 0 cur 5 hblk'.out cs ?ca ?cb ?cc ?cd w.heap.size w hbm (Nat.le_refl _) ?_)
      case ca => rw [hcs.out]; simp
      case cb =>
        intro hpos j v hj
        have hj' : j < n ∧ v = .int .u8 (X j) := by
          rw [hcs.out] at hj
          have hjn : j < n := by have := (List.getElem?_eq_some_iff.1 hj).1; simpa using this
          exact ⟨hjn, by simpa [hjn] using hj.symm⟩
        obtain ⟨b, off, rfl, hlt, hc⟩ := hsrc.out.resolve_left (by omega)
        rw [hj'.2]
        have e1 := (hbm.cell (p := ⟨b, off + j, none⟩) hlt).trans (hc j hj'.1)
        first | exact e1 | (rw [Addr.add_lit]; exact e1)
      case cc => rw [hcs.out]; simp; omega
      case cd => intro v hv; rw [hcs.out] at hv; obtain ⟨i, _, rfl⟩ := List.mem_map.1 hv; rfl
      intro w2 hrow hb2
      have hlies : Lies w2 (some ⟨w.heap.size, 0, none⟩) n X := by
        refine .inr ⟨w.heap.size, 0, rfl, ?_, fun i hi => ?_⟩
        · have := hrow.out
          exact (Array.getElem?_eq_some_iff.1 this).1
        · have e : splice cur 0 cs = cs := by
            have : cs.length = n := by rw [hcs.out]; simp
            unfold splice
            rw [List.drop_eq_nil_of_le (by omega)]; simp
          have := hrow.out
          rw [e, hcs.out] at this
          simp [World.cell?, this, hi]
      clear hrow hcs hblk' hbm hsrc hltm
      go_wp2_with fail
      go_meet
      case rel => exact ⟨_, rfl, hb2, hlies⟩
  case rest =>
  obtain ⟨q, rfl, hb1, hlq⟩ := hcut
  have HLw : Hid (Lies wc a n X) := HL.out.below hb1
  have HEw : Hid (Errs wc) := HE.out.below hb1
  have HQ : Hid (Lies wc q n X) := hlq
  clear HL HE hlq HZ q22
  go_wp2_with fail
  refine (model q n n tag X wc R hR.out hn h0 h1 HQ.out HX.out).mono ?_
  rintro e wy ⟨rfl, rfl⟩
  go_wp2_with fail
  refine (count a n c0 tag X wy R hR.out hn hnc h0 h1 HLw.out HX.out HEw.out).mono ?_
  rintro e wz ⟨rfl, hbz⟩
  have HLz : Hid (Lies wz a n X) := HLw.out.below hbz
  have HQz : Hid (Lies wz q n X) := HQ.out.below hbz
  have hbw : Below w.heap.size w wz := hb1.trans (hbz.mono hb1.size)
  clear HLw HEw HQ hb1 hbz hR HX
  have hRR : (R == R) = true := beq_self_eq_true _
  go_wp2_with fail
  go_loopw [8] (fun i wx => ∃ k : Nat, k ≤ n ∧ i = .int .i64 k ∧ ∃ m, wx = wz.drewN m) (fun i _ => n - (intOf i).toNat)
  case atStart => exact ⟨0, Nat.zero_le _, rfl, 0, rfl⟩
  case round =>
    obtain ⟨k, hk, rfl, m, rfl⟩ := hrel
    by_cases hlt : k < n
    · obtain ⟨b1, o1, rfl, _, hc1⟩ := HLz.out.resolve_left (by omega)
      obtain ⟨b2, o2, rfl, _, hc2⟩ := HQz.out.resolve_left (by omega)
      have e1 := hc1 k hlt
      have e2 := hc2 k hlt
      clear hc1 hc2 HLz HQz
      go_wp2_with fail
      go_quiet (fail)
      go_wp2_with fail
      go_roundw
      case rel => exact ⟨k + 1, by omega, by go_num, _, rfl⟩
      case measure => simp [intOf]; omega
    · go_wp2
      go_ret
      exact ⟨rfl, below_drewN hbw m⟩

end Go.Proofs.YbulkegbcDoor
