/-
  The proof of Rows.LawS6613BWholeSaid: the long case, and the row's step (after the guide's frame; the row's own reach pays for the sum of the lengths).
-/
import Derived.Test.YbulkefxwRows
import Derived.Test.YbulkefxwWalkB
import Derived.WalkKit
import Derived.ProofKit
import Derived.OpenShut
import Derived.ShutString
import Derived.ChangeOld
import Derived.Below
import Derived.SizedLaws
namespace Go.Proofs.Ybulkefxw.lawS6613BWhole
open Go.ChangeShapes Go.WideShapes Go.ChangeAt Go.RowKit
open Go.ChangeMaps (open_string shut_string)

theorem own : ownKnob Yba.prog.godebug = none := by kernel_rfl
theorem laidOut : laidOutB Yba.prog = true := by kernel_rfl
theorem bytes5 : Yba.prog.bytesOf 5 = 1 := by kernel_rfl
theorem bytes3 : Yba.prog.bytesOf 3 = 8 := by kernel_rfl
theorem bytes2 : Yba.prog.bytesOf 2 = 8 := by kernel_rfl

set_option maxRecDepth 100000 in
theorem walkB_long (a0 a1 : Bool) (a2 : ByteArray) (a3 : Int) (a4 : Option Addr) (n4 c4 : Nat) (a5 : Option Addr) (n5 c5 : Nat) (a6 : Option Addr) (n6 c6 : Nat) (s0 s1 s2 s3 s4 s5 s6 s7 b0 b1 b2 b3 b4 b5 b6 b7 : Int) (a9 : Option Addr) (n9 c9 : Nat) (a10 a11 : Int) (w : World)
    (h4 : n4 ≤ 140737488351232) (h5 : n5 ≤ 140737488351232) (h6 : n6 ≤ 140737488351232) (h9 : n9 ≤ 140737488351232) (h2 : a2.size ≤ 140737488351232) (hn : 1048576 < n4 + n5 + n6 + n9 + a2.size) :
    Calls Yba.prog 4 #[.bool a0, .bool a1, .string a2, .int .i64 a3, .slice a4 n4 c4, .slice a5 n5 c5, .slice a6 n6 c6, .agg #[.int .u8 s0, .int .u8 s1, .int .u8 s2, .int .u8 s3, .int .u8 s4, .int .u8 s5, .int .u8 s6, .int .u8 s7], .agg #[.int .u8 b0, .int .u8 b1, .int .u8 b2, .int .u8 b3, .int .u8 b4, .int .u8 b5, .int .u8 b6, .int .u8 b7], .slice a9 n9 c9, .int .i64 a10, .int .i64 a11] w fun e w' => e = .returned (.bool true) ∧ Below w.heap.size w w' := by
  go_enter Yba.func4, Yba.ntmps4
  go_wp2
  go_ret
  exact ⟨rfl, ((Below.refl _ _).alloc (Nat.le_refl _) _).alloc (by simp) _⟩

theorem array8 {α : Type} {cs : Array α} (h : cs.size = 8) : ∃ c0 c1 c2 c3 c4 c5 c6 c7, cs = #[c0, c1, c2, c3, c4, c5, c6, c7] := by
  obtain ⟨l⟩ := cs
  match l, h with
  | [c0, c1, c2, c3, c4, c5, c6, c7], _ => exact ⟨c0, c1, c2, c3, c4, c5, c6, c7, rfl⟩

/-- '[8]byte' by value: its eight bytes. -/
theorem open_arr8 {H : Type} {enc : TypeId × Value → H} {W : World} {base : Nat} {v : Value} {d : DataW H} {p : List MemPlace} (hv : Value.okWide Yba.prog W .any base 35 v) (h : DataW.Trod enc Yba.prog W 0 (fun _ => true) true 35 v d p) :
    ∃ x0 x1 x2 x3 x4 x5 x6 x7 : Int, v = .agg #[.int .u8 x0, .int .u8 x1, .int .u8 x2, .int .u8 x3, .int .u8 x4, .int .u8 x5, .int .u8 x6, .int .u8 x7] ∧ ∀ x ∈ [x0, x1, x2, x3, x4, x5, x6, x7], (Lit.int .u8 x).wf = true := by
  obtain ⟨cs, rfl, hsz, _⟩ : ∃ cs, v = .agg cs ∧ cs.size = Yba.prog.cellsOf 35 ∧ Row.okWide Yba.prog W .any base 35 cs := by
    simpa [Value.okWide, Yba.underlying35] using hv
  rw [Yba.cells35] at hsz
  obtain ⟨c0, c1, c2, c3, c4, c5, c6, c7, rfl⟩ := array8 hsz
  obtain ⟨fuel, hf⟩ := h
  obtain ⟨xs, m, _, _, _, hxl, hi⟩ := DataW.trod_array Yba.underlying35 hf
  have one : ∀ (i : Nat) (c : Value), i < 8 → (([c0, c1, c2, c3, c4, c5, c6, c7] : List Value).drop i).take 1 = [c] → ∃ n, c = .int .u8 n ∧ (Lit.int .u8 n).wf = true := by
    intro i c hi8 hc
    have h1 := hi i hi8
    rw [Yba.cells5, Nat.mul_one] at h1
    have h2 : DataW.trod enc Yba.prog W 0 (fun _ => true) true m 5 [c] = xs[i]? := by rw [← hc]; exact h1
    rw [List.getElem?_eq_getElem (by omega)] at h2
    obtain ⟨n, e, _, hw⟩ := DataW.trod_int Yba.underlying5 h2
    simp at e
    exact ⟨n, e, hw⟩
  obtain ⟨x0, rfl, w0⟩ := one 0 c0 (by omega) rfl
  obtain ⟨x1, rfl, w1⟩ := one 1 c1 (by omega) rfl
  obtain ⟨x2, rfl, w2⟩ := one 2 c2 (by omega) rfl
  obtain ⟨x3, rfl, w3⟩ := one 3 c3 (by omega) rfl
  obtain ⟨x4, rfl, w4⟩ := one 4 c4 (by omega) rfl
  obtain ⟨x5, rfl, w5⟩ := one 5 c5 (by omega) rfl
  obtain ⟨x6, rfl, w6⟩ := one 6 c6 (by omega) rfl
  obtain ⟨x7, rfl, w7⟩ := one 7 c7 (by omega) rfl
  refine ⟨x0, x1, x2, x3, x4, x5, x6, x7, rfl, ?_⟩
  intro x hx
  simp at hx
  rcases hx with rfl | rfl | rfl | rfl | rfl | rfl | rfl | rfl <;> assumption

theorem lies_of {w : World} {x : Addr} {n : Nat} {C : Nat → Value} (h : ∀ i, i < n → w.cell? (x.add i) = some (C i)) : Lies w (some x) n C := by
  by_cases h0 : n = 0
  · exact .inl h0
  · right
    have h1 := h 0 (by omega)
    obtain ⟨b, off, spot⟩ := x
    have hs : spot = none := by simpa [Addr.add] using World.cell?_spot h1
    subst hs
    refine ⟨b, off, rfl, ?_, fun i hi => ?_⟩
    · have := World.block_lt_of_cell? _ _ h1
      rw [add_plain] at this
      exact this
    · rw [← add_plain]; exact h i hi

set_option maxHeartbeats 1000000 in
set_option maxRecDepth 100000 in
theorem lifted (os : Os) (started : os.Started) (H : Type) (enc : TypeId × Value → H) :
    ReturnsInHanded {} Yba.checked os 4 .any (Rows.lawS6613BWholeSpec.pre6 enc Yba.prog Yba.f4 Rows.lawS6613BWholeRow.domain false) (Rows.lawS6613BWholeSpec.post enc Yba.prog Yba.f4 false true false false) := by
  refine returnsInHanded_of_change_sized (C := Yba.checked) own started (by kernel_rfl) Yba.func4
    (ChangeSpec.witness6 (enc := enc) (C := Yba.checked) false ⟨#[], #[.bool false, .bool false, .string ByteArray.empty, .int .i64 0, .slice none 0 0, .slice none 0 0, .slice none 0 0, .agg #[.int .u8 0, .int .u8 0, .int .u8 0, .int .u8 0, .int .u8 0, .int .u8 0, .int .u8 0, .int .u8 0], .agg #[.int .u8 0, .int .u8 0, .int .u8 0, .int .u8 0, .int .u8 0, .int .u8 0, .int .u8 0, .int .u8 0], .slice none 0 0, .int .i64 0, .int .i64 0], []⟩ 8 (by kernel_rfl) (by kernel_rfl) (by kernel_rfl) (by kernel_rfl)) ?_
  intro W base args ds gs before hval0 hW hcnd hsz0 _
  have hval : ∀ (j : Nat) t v, Yba.f4.params[j]? = some t → args[j]? = some v → Value.okWide Yba.prog W .any base t v := hval0
  have hsz : (DataW.weightsEach Yba.prog (Yba.f4.params.toList ++ Rows.lawS6613BWholeSpec.plain.varTypes Yba.prog) (ds ++ gs)).all (· ≤ reachBytes) = true := hsz0
  have hW' := hW
  obtain ⟨p, q, hA0, hV, rfl, hfz, hnd⟩ := hW
  have hA : DataW.TrodAll enc Yba.prog W 0 (fun _ => true) true Yba.f4.params.toList args.toList ds p := hA0
  rw [Yba.params4] at hA hval hsz
  obtain ⟨v0, vs0, d0, ds0, p0, q0, hargs, rfl, rfl, h0, r0⟩ := trodAll_cons hA
  obtain ⟨v1, vs1, d1, ds1, p1, q1, rfl, rfl, rfl, h1, r1⟩ := trodAll_cons r0
  obtain ⟨v2, vs2, d2, ds2, p2, q2, rfl, rfl, rfl, h2, r2⟩ := trodAll_cons r1
  obtain ⟨v3, vs3, d3, ds3, p3, q3, rfl, rfl, rfl, h3, r3⟩ := trodAll_cons r2
  obtain ⟨v4, vs4, d4, ds4, p4, q4, rfl, rfl, rfl, h4, r4⟩ := trodAll_cons r3
  obtain ⟨v5, vs5, d5, ds5, p5, q5, rfl, rfl, rfl, h5, r5⟩ := trodAll_cons r4
  obtain ⟨v6, vs6, d6, ds6, p6, q6, rfl, rfl, rfl, h6, r6⟩ := trodAll_cons r5
  obtain ⟨v7, vs7, d7, ds7, p7, q7, rfl, rfl, rfl, h7, r7⟩ := trodAll_cons r6
  obtain ⟨v8, vs8, d8, ds8, p8, q8, rfl, rfl, rfl, h8, r8⟩ := trodAll_cons r7
  obtain ⟨v9, vs9, d9, ds9, p9, q9, rfl, rfl, rfl, h9, r9⟩ := trodAll_cons r8
  obtain ⟨v10, vs10, d10, ds10, p10, q10, rfl, rfl, rfl, h10, r10⟩ := trodAll_cons r9
  obtain ⟨v11, vs11, d11, ds11, p11, q11, rfl, rfl, rfl, h11, r11⟩ := trodAll_cons r10
  obtain ⟨rfl, rfl, rfl⟩ := trodAll_nil r11
  obtain rfl : args = #[v0, v1, v2, v3, v4, v5, v6, v7, v8, v9, v10, v11] := by cases args; simp_all
  obtain ⟨rfl, rfl⟩ := trodVars_none hV
  have k0 := h0
  have lt0 : ∀ x ∈ p0, x.block < W.heap.size := by obtain ⟨m, hm⟩ := k0; exact DataW.trod_lt m _ _ _ hm
  have k1 := h1
  have lt1 : ∀ x ∈ p1, x.block < W.heap.size := by obtain ⟨m, hm⟩ := k1; exact DataW.trod_lt m _ _ _ hm
  have k2 := h2
  have lt2 : ∀ x ∈ p2, x.block < W.heap.size := by obtain ⟨m, hm⟩ := k2; exact DataW.trod_lt m _ _ _ hm
  have k3 := h3
  have lt3 : ∀ x ∈ p3, x.block < W.heap.size := by obtain ⟨m, hm⟩ := k3; exact DataW.trod_lt m _ _ _ hm
  have k4 := h4
  have lt4 : ∀ x ∈ p4, x.block < W.heap.size := by obtain ⟨m, hm⟩ := k4; exact DataW.trod_lt m _ _ _ hm
  have k5 := h5
  have lt5 : ∀ x ∈ p5, x.block < W.heap.size := by obtain ⟨m, hm⟩ := k5; exact DataW.trod_lt m _ _ _ hm
  have k6 := h6
  have lt6 : ∀ x ∈ p6, x.block < W.heap.size := by obtain ⟨m, hm⟩ := k6; exact DataW.trod_lt m _ _ _ hm
  have k7 := h7
  have lt7 : ∀ x ∈ p7, x.block < W.heap.size := by obtain ⟨m, hm⟩ := k7; exact DataW.trod_lt m _ _ _ hm
  have k8 := h8
  have lt8 : ∀ x ∈ p8, x.block < W.heap.size := by obtain ⟨m, hm⟩ := k8; exact DataW.trod_lt m _ _ _ hm
  have k9 := h9
  have lt9 : ∀ x ∈ p9, x.block < W.heap.size := by obtain ⟨m, hm⟩ := k9; exact DataW.trod_lt m _ _ _ hm
  have k10 := h10
  have lt10 : ∀ x ∈ p10, x.block < W.heap.size := by obtain ⟨m, hm⟩ := k10; exact DataW.trod_lt m _ _ _ hm
  have k11 := h11
  have lt11 : ∀ x ∈ p11, x.block < W.heap.size := by obtain ⟨m, hm⟩ := k11; exact DataW.trod_lt m _ _ _ hm
  obtain ⟨a4, n4, c4, rfl⟩ := okWide_slice Yba.underlying33 (hval 4 33 v4 rfl rfl)
  obtain ⟨m4, z4, N4, l4⟩ : n4 ≤ 140737488351232 ∧ (a4 = none → n4 = 0) ∧ ∃ X : Nat → Int, Lies W a4 n4 (fun i => .int .u8 (X i)) := by
    obtain ⟨fuel, hf⟩ := h4
    rcases open_ints Yba.underlying33 Yba.underlying5 (by kernel_rfl) hf with ⟨hcs, _⟩ | ⟨x, l, c, zs, hcs, _, hl, hm, hz, hx, hcell, hwz⟩
    · simp [Value.cells] at hcs
      obtain ⟨rfl, rfl, rfl⟩ := hcs
      exact ⟨Nat.zero_le _, fun _ => rfl, fun _ => 0, .inl rfl⟩
    · simp [Value.cells] at hcs
      obtain ⟨rfl, rfl, rfl⟩ := hcs
      simp only [if_true] at hz
      simp only [Prod.mk.injEq] at hx
      have hw := sized_slice hsz (j := 4) (t := 33) (e := 5) rfl (by rw [hx.1]; rfl) Yba.underlying33
      rw [bytes5] at hw
      simp only [lits, List.length_map, List.length_take, List.length_drop, reachBytes] at hw
      exact ⟨by omega, (fun h => by cases h), fun i => zs.getD i 0, lies_of fun i hi => hcell i (by omega)⟩
  obtain ⟨a5, n5, c5, rfl⟩ := okWide_slice Yba.underlying37 (hval 5 37 v5 rfl rfl)
  obtain ⟨m5, z5, N5, l5⟩ : n5 ≤ 140737488351232 ∧ (a5 = none → n5 = 0) ∧ ∃ X : Nat → Int, Lies W a5 n5 (fun i => .int .i64 (X i)) := by
    obtain ⟨fuel, hf⟩ := h5
    rcases open_ints Yba.underlying37 Yba.underlying3 (by kernel_rfl) hf with ⟨hcs, _⟩ | ⟨x, l, c, zs, hcs, _, hl, hm, hz, hx, hcell, hwz⟩
    · simp [Value.cells] at hcs
      obtain ⟨rfl, rfl, rfl⟩ := hcs
      exact ⟨Nat.zero_le _, fun _ => rfl, fun _ => 0, .inl rfl⟩
    · simp [Value.cells] at hcs
      obtain ⟨rfl, rfl, rfl⟩ := hcs
      simp only [if_true] at hz
      simp only [Prod.mk.injEq] at hx
      have hw := sized_slice hsz (j := 5) (t := 37) (e := 3) rfl (by rw [hx.1]; rfl) Yba.underlying37
      rw [bytes3] at hw
      simp only [lits, List.length_map, List.length_take, List.length_drop, reachBytes] at hw
      exact ⟨by omega, (fun h => by cases h), fun i => zs.getD i 0, lies_of fun i hi => hcell i (by omega)⟩
  obtain ⟨a6, n6, c6, rfl⟩ := okWide_slice Yba.underlying37 (hval 6 37 v6 rfl rfl)
  obtain ⟨m6, z6, N6, l6⟩ : n6 ≤ 140737488351232 ∧ (a6 = none → n6 = 0) ∧ ∃ X : Nat → Int, Lies W a6 n6 (fun i => .int .i64 (X i)) := by
    obtain ⟨fuel, hf⟩ := h6
    rcases open_ints Yba.underlying37 Yba.underlying3 (by kernel_rfl) hf with ⟨hcs, _⟩ | ⟨x, l, c, zs, hcs, _, hl, hm, hz, hx, hcell, hwz⟩
    · simp [Value.cells] at hcs
      obtain ⟨rfl, rfl, rfl⟩ := hcs
      exact ⟨Nat.zero_le _, fun _ => rfl, fun _ => 0, .inl rfl⟩
    · simp [Value.cells] at hcs
      obtain ⟨rfl, rfl, rfl⟩ := hcs
      simp only [if_true] at hz
      simp only [Prod.mk.injEq] at hx
      have hw := sized_slice hsz (j := 6) (t := 37) (e := 3) rfl (by rw [hx.1]; rfl) Yba.underlying37
      rw [bytes3] at hw
      simp only [lits, List.length_map, List.length_take, List.length_drop, reachBytes] at hw
      exact ⟨by omega, (fun h => by cases h), fun i => zs.getD i 0, lies_of fun i hi => hcell i (by omega)⟩
  obtain ⟨a9, n9, c9, rfl⟩ := okWide_slice Yba.underlying31 (hval 9 31 v9 rfl rfl)
  obtain ⟨m9, z9, N9, l9⟩ : n9 ≤ 140737488351232 ∧ (a9 = none → n9 = 0) ∧ ∃ X : Nat → Int, Lies W a9 n9 (fun i => .int .i64 (X i)) := by
    obtain ⟨fuel, hf⟩ := h9
    rcases open_ints Yba.underlying31 Yba.underlying2 (by kernel_rfl) hf with ⟨hcs, _⟩ | ⟨x, l, c, zs, hcs, _, hl, hm, hz, hx, hcell, hwz⟩
    · simp [Value.cells] at hcs
      obtain ⟨rfl, rfl, rfl⟩ := hcs
      exact ⟨Nat.zero_le _, fun _ => rfl, fun _ => 0, .inl rfl⟩
    · simp [Value.cells] at hcs
      obtain ⟨rfl, rfl, rfl⟩ := hcs
      simp only [if_true] at hz
      simp only [Prod.mk.injEq] at hx
      have hw := sized_slice hsz (j := 9) (t := 31) (e := 2) rfl (by rw [hx.1]; rfl) Yba.underlying31
      rw [bytes2] at hw
      simp only [lits, List.length_map, List.length_take, List.length_drop, reachBytes] at hw
      exact ⟨by omega, (fun h => by cases h), fun i => zs.getD i 0, lies_of fun i hi => hcell i (by omega)⟩
  obtain ⟨a2, rfl, hd2, rfl, w2⟩ := open_string Yba.underlying9 (hval 2 9 v2 rfl rfl) h2
  have m2 : a2.size ≤ 140737488351232 := by
    have hw := sized_string hsz (j := 2) (t := 9) rfl (by rw [hd2]; rfl)
    simp only [reachBytes] at hw
    have : a2.size = a2.data.toList.length := by simp only [Array.length_toList]; rfl
    omega
  obtain ⟨s0, s1, s2, s3, s4, s5, s6, s7, rfl, _⟩ := open_arr8 (hval 7 35 v7 rfl rfl) h7
  obtain ⟨b0, b1, b2, b3, b4, b5, b6, b7, rfl, wb⟩ := open_arr8 (hval 8 35 v8 rfl rfl) h8
  obtain ⟨a0, rfl, _, _⟩ := open_bool Yba.underlying4 (hval 0 4 v0 rfl rfl) h0
  obtain ⟨a1, rfl, _, _⟩ := open_bool Yba.underlying4 (hval 1 4 v1 rfl rfl) h1
  obtain ⟨a3, rfl, _, _, _⟩ := open_int Yba.underlying2 (hval 3 2 v3 rfl rfl) h3
  obtain ⟨a10, rfl, _, _, _⟩ := open_int Yba.underlying3 (hval 10 3 v10 rfl rfl) h10
  obtain ⟨a11, rfl, _, _, _⟩ := open_int Yba.underlying3 (hval 11 3 v11 rfl rfl) h11
  clear hA0 hval0
  have wk : Calls Yba.prog 4 #[.bool a0, .bool a1, .string a2, .int .i64 a3, .slice a4 n4 c4, .slice a5 n5 c5, .slice a6 n6 c6, .agg #[.int .u8 s0, .int .u8 s1, .int .u8 s2, .int .u8 s3, .int .u8 s4, .int .u8 s5, .int .u8 s6, .int .u8 s7], .agg #[.int .u8 b0, .int .u8 b1, .int .u8 b2, .int .u8 b3, .int .u8 b4, .int .u8 b5, .int .u8 b6, .int .u8 b7], .slice a9 n9 c9, .int .i64 a10, .int .i64 a11] W fun e w' => e = .returned (.bool true) ∧ Below W.heap.size W w' := by
    by_cases hl : 1048576 < n4 + n5 + n6 + n9 + a2.size
    · exact walkB_long a0 a1 a2 a3 a4 n4 c4 a5 n5 c5 a6 n6 c6 s0 s1 s2 s3 s4 s5 s6 s7 b0 b1 b2 b3 b4 b5 b6 b7 a9 n9 c9 a10 a11 W m4 m5 m6 m9 m2 hl
    · exact walkB a0 a1 a2 a3 a4 n4 c4 a5 n5 c5 a6 n6 c6 s0 s1 s2 s3 s4 s5 s6 s7 b0 b1 b2 b3 b4 b5 b6 b7 a9 n9 c9 a10 a11 N4 N5 N6 N9 W wb (by omega) z4 z6 z9 l4 l5 l6 l9
  refine wk.mono fun e W' ⟨he, bel⟩ => ?_
  subst he
  exact ⟨_, rfl, _, _, _, [], _, [], hW', trodAll_mk1 (shut_bool Yba.underlying4 _), (trodAll_cons_mk (Below.trod laidOut (by kernel_rfl) (of_decide_eq_true (by kernel_rfl)) k0 bel lt0) (trodAll_cons_mk (Below.trod laidOut (by kernel_rfl) (of_decide_eq_true (by kernel_rfl)) k1 bel lt1) (trodAll_cons_mk (Below.trod laidOut (by kernel_rfl) (of_decide_eq_true (by kernel_rfl)) k2 bel lt2) (trodAll_cons_mk (Below.trod laidOut (by kernel_rfl) (of_decide_eq_true (by kernel_rfl)) k3 bel lt3) (trodAll_cons_mk (Below.trod laidOut (by kernel_rfl) (of_decide_eq_true (by kernel_rfl)) k4 bel lt4) (trodAll_cons_mk (Below.trod laidOut (by kernel_rfl) (of_decide_eq_true (by kernel_rfl)) k5 bel lt5) (trodAll_cons_mk (Below.trod laidOut (by kernel_rfl) (of_decide_eq_true (by kernel_rfl)) k6 bel lt6) (trodAll_cons_mk (Below.trod laidOut (by kernel_rfl) (of_decide_eq_true (by kernel_rfl)) k7 bel lt7) (trodAll_cons_mk (Below.trod laidOut (by kernel_rfl) (of_decide_eq_true (by kernel_rfl)) k8 bel lt8) (trodAll_cons_mk (Below.trod laidOut (by kernel_rfl) (of_decide_eq_true (by kernel_rfl)) k9 bel lt9) (trodAll_cons_mk (Below.trod laidOut (by kernel_rfl) (of_decide_eq_true (by kernel_rfl)) k10 bel lt10) (trodAll_cons_mk (Below.trod laidOut (by kernel_rfl) (of_decide_eq_true (by kernel_rfl)) k11 bel lt11) trodAll_mk0)))))))))))), rfl, bel.frame _, fun h => by cases h⟩

theorem over : Rows.lawS6613BWholeRow.holds Yba.pinned (OpenSpec.ofChange Rows.lawS6613BWholeSpec) :=
  OpenClaim.holds_of_wide 4 Yba.f4 rfl rfl rfl rfl rfl rfl rfl ⟨rfl, rfl, rfl, rfl, rfl⟩ rfl rfl rfl rfl rfl (by kernel_rfl) Yba.func4 (by kernel_rfl)
    (of_decide_eq_true (by kernel_rfl)) (by unfold Func.isWrapper; first | (rw [if_pos (by decide +kernel)]; kernel_rfl) | (rw [if_neg (by decide +kernel)]; exact ⟨rfl, rfl⟩))
    (fun os started H enc _ => lifted os started H enc)

/-- The statement. -/
theorem proved : Rows.LawS6613BWholeSaid := over
#print axioms proved
end Go.Proofs.Ybulkefxw.lawS6613BWhole
