/-
  The proof of Rows.LawS6612BWholeSaid: the walks joined, and the row's step (after the guide's frame for a law over slices).
-/
import Derived.Test.YbulkefxiRows
import Derived.Test.YbulkefxiWalk0
import Derived.Test.YbulkefxiWalk1
import Derived.Test.YbulkefxiWalk2
import Derived.Test.YbulkefxiWalk3
import Derived.Test.YbulkefxiEdges
import Derived.WalkKit
import Derived.ProofKit
import Derived.OpenShut
import Derived.ShutString
import Derived.ChangeOld
import Derived.Below
import Derived.SliceStrings
namespace Go.Proofs.Ybulkefxi.lawS6612BWhole
open Go.ChangeShapes Go.WideShapes Go.ChangeAt Go.RowKit
open Go.ChangeMaps (open_string shut_string)

theorem own : ownKnob Yba.prog.godebug = none := by kernel_rfl
theorem laidOut : laidOutB Yba.prog = true := by kernel_rfl

/-- What the walks are told of a slice of one-cell elements that came in: it has no element, or its elements lie at an address. -/
def Came (w : World) (a : Option Addr) (n : Nat) (C : Nat → Value) : Prop :=
  n = 0 ∨ ∃ b off, a = some ⟨b, off, none⟩ ∧ b < w.heap.size ∧ ∀ i, i < n → w.cell? ⟨b, off + i, none⟩ = some (C i)

theorem came_of {w : World} {x : Addr} {n : Nat} {C : Nat → Value} (h : ∀ i, i < n → w.cell? (x.add i) = some (C i)) : Came w (some x) n C := by
  by_cases h0 : n = 0
  · exact .inl h0
  · right
    have h1 := h 0 (by omega)
    obtain ⟨b, off, spot⟩ := x
    have hs : spot = none := by simpa [Addr.add] using World.cell?_spot h1
    subst hs
    refine ⟨b, off, rfl, ?_, fun i hi => ?_⟩
    · have := World.block_lt_of_cell? _ _ h1
      rw [add_plain] at this
      exact this
    · rw [← add_plain]; exact h i hi

theorem walk (a0 : Int) (a1 : Option Addr) (n1 c1 : Nat) (a2 : Option Addr) (n2 c2 : Nat) (a3 : Int) (X : Nat → Int) (S : Nat → ByteArray) (w : World) (w0 : (Lit.int .u8 a0).wf = true)
    (h1 : n1 ≤ maxLen) (h2 : n2 ≤ maxLen) (hX : Came w a1 n1 (fun i => .int .i64 (X i))) (hS : Came w a2 n2 (fun i => .string (S i))) :
    Calls Yba.prog 3 #[.int .u8 a0, .slice a1 n1 c1, .slice a2 n2 c2, .int .i64 a3] w fun e w' => e = .returned (.bool true) ∧ Below w.heap.size w w' := by
  by_cases hl : 1048576 < n1 ∨ 1048576 < n2
  · exact walk_long a0 a1 n1 c1 a2 n2 c2 a3 w h1 h2 hl
  obtain ⟨h00, h01⟩ := bounds_u8 w0
  have hm : a0 % 4 = 0 ∨ a0 % 4 = 1 ∨ a0 % 4 = 2 ∨ a0 % 4 = 3 := by omega
  rcases hm with hm | hm | hm | hm
  · rcases hX with rfl | ⟨b, off, rfl, hb, hc⟩
    · exact zero0 a0 a1 c1 a2 n2 c2 a3 w h00 h01 (by omega) hm
    · by_cases h0 : n1 = 0
      · subst h0; exact zero0 a0 _ c1 a2 n2 c2 a3 w h00 h01 (by omega) hm
      · exact walk0 a0 b off n1 c1 a2 n2 c2 a3 X w h00 h01 (by omega) (by omega) (by omega) hb hc hm
  · rcases hX with rfl | ⟨b, off, rfl, hb, hc⟩
    · exact zero1 a0 a1 c1 a2 n2 c2 a3 w h00 h01 (by omega) hm
    · by_cases h0 : n1 = 0
      · subst h0; exact zero1 a0 _ c1 a2 n2 c2 a3 w h00 h01 (by omega) hm
      · exact walk1 a0 b off n1 c1 a2 n2 c2 a3 X w h00 h01 (by omega) (by omega) (by omega) hb hc hm
  · rcases hS with rfl | ⟨b, off, rfl, hb, hc⟩
    · exact zero2 a0 a1 n1 c1 a2 c2 a3 w h00 h01 (by omega) hm
    · by_cases h0 : n2 = 0
      · subst h0; exact zero2 a0 a1 n1 c1 _ c2 a3 w h00 h01 (by omega) hm
      · exact walk2 a0 a1 n1 c1 b off n2 c2 a3 S w h00 h01 (by omega) (by omega) (by omega) hb hc hm
  · rcases hX with rfl | ⟨b, off, rfl, hb, hc⟩
    · exact zero3 a0 a1 c1 a2 n2 c2 a3 w h00 h01 (by omega) hm
    · by_cases h0 : n1 = 0
      · subst h0; exact zero3 a0 _ c1 a2 n2 c2 a3 w h00 h01 (by omega) hm
      · exact walk3 a0 b off n1 c1 a2 n2 c2 a3 X w h00 h01 (by omega) (by omega) (by omega) hb hc hm

set_option maxRecDepth 100000 in
theorem lifted (os : Os) (started : os.Started) (H : Type) (enc : TypeId × Value → H) :
    ReturnsInHanded {} Yba.checked os 3 .any (Rows.lawS6612BWholeSpec.pre6 enc Yba.prog Yba.f3 Rows.lawS6612BWholeRow.domain false) (Rows.lawS6612BWholeSpec.post enc Yba.prog Yba.f3 false true false false) := by
  refine returnsInHanded_of_change (C := Yba.checked) own started (by kernel_rfl) Yba.func3
    (ChangeSpec.witness6 (enc := enc) (C := Yba.checked) false ⟨#[], #[.int .u8 0, .slice none 0 0, .slice none 0 0, .int .i64 0], []⟩ 8 (by kernel_rfl) (by kernel_rfl) (by kernel_rfl) (by kernel_rfl)) ?_
  intro W base args ds gs before hval0 hW hcnd _
  have hval : ∀ (j : Nat) t v, Yba.f3.params[j]? = some t → args[j]? = some v → Value.okWide Yba.prog W .any base t v := hval0
  have hW' := hW
  obtain ⟨p, q, hA0, hV, rfl, hfz, hnd⟩ := hW
  have hA : DataW.TrodAll enc Yba.prog W 0 (fun _ => true) true Yba.f3.params.toList args.toList ds p := hA0
  rw [Yba.params3] at hA hval
  obtain ⟨v0, vs0, d0, ds0, p0, q0, hargs, rfl, rfl, h0, r0⟩ := trodAll_cons hA
  obtain ⟨v1, vs1, d1, ds1, p1, q1, rfl, rfl, rfl, h1, r1⟩ := trodAll_cons r0
  obtain ⟨v2, vs2, d2, ds2, p2, q2, rfl, rfl, rfl, h2, r2⟩ := trodAll_cons r1
  obtain ⟨v3, vs3, d3, ds3, p3, q3, rfl, rfl, rfl, h3, r3⟩ := trodAll_cons r2
  obtain ⟨rfl, rfl, rfl⟩ := trodAll_nil r3
  obtain rfl : args = #[v0, v1, v2, v3] := by cases args; simp_all
  obtain ⟨rfl, rfl⟩ := trodVars_none hV
  obtain ⟨a0, rfl, rfl, rfl, w0⟩ := open_int Yba.underlying5 (hval 0 5 v0 rfl rfl) h0
  obtain ⟨a1, n1, c1, rfl⟩ := okWide_slice Yba.underlying22 (hval 1 22 v1 rfl rfl)
  obtain ⟨a2, n2, c2, rfl⟩ := okWide_slice Yba.underlying23 (hval 2 23 v2 rfl rfl)
  obtain ⟨a3, rfl, rfl, rfl, w3⟩ := open_int Yba.underlying3 (hval 3 3 v3 rfl rfl) h3
  have k1 := h1
  have k2 := h2
  have lt1 : ∀ x ∈ p1, x.block < W.heap.size := by obtain ⟨m, hm⟩ := k1; exact DataW.trod_lt m _ _ _ hm
  have lt2 : ∀ x ∈ p2, x.block < W.heap.size := by obtain ⟨m, hm⟩ := k2; exact DataW.trod_lt m _ _ _ hm
  obtain ⟨m1, X, e1⟩ : n1 ≤ maxLen ∧ ∃ X : Nat → Int, Came W a1 n1 (fun i => .int .i64 (X i)) := by
    obtain ⟨fuel, hf⟩ := h1
    rcases open_ints Yba.underlying22 Yba.underlying2 (by kernel_rfl) hf with ⟨hcs, _⟩ | ⟨x, l, c, zs, hcs, _, hl, hm, hz, _, hcell, hwz⟩
    · simp [Value.cells] at hcs
      obtain ⟨rfl, rfl, rfl⟩ := hcs
      exact ⟨Nat.zero_le _, fun _ => 0, .inl rfl⟩
    · simp [Value.cells] at hcs
      obtain ⟨rfl, rfl, rfl⟩ := hcs
      simp only [if_true] at hz
      exact ⟨Nat.le_trans hl hm, fun i => zs.getD i 0, came_of fun i hi => hcell i (by omega)⟩
  obtain ⟨m2, S, e2⟩ : n2 ≤ maxLen ∧ ∃ S : Nat → ByteArray, Came W a2 n2 (fun i => .string (S i)) := by
    obtain ⟨fuel, hf⟩ := h2
    rcases open_strings Yba.underlying23 Yba.underlying9 (by kernel_rfl) hf with ⟨hcs, _⟩ | ⟨x, l, c, zs, hcs, _, hl, hm, hz, _, hcell, hwz⟩
    · simp [Value.cells] at hcs
      obtain ⟨rfl, rfl, rfl⟩ := hcs
      exact ⟨Nat.zero_le _, fun _ => ByteArray.empty, .inl rfl⟩
    · simp [Value.cells] at hcs
      obtain ⟨rfl, rfl, rfl⟩ := hcs
      simp only [if_true] at hz
      exact ⟨Nat.le_trans hl hm, fun i => zs.getD i ByteArray.empty, came_of fun i hi => hcell i (by omega)⟩
  clear hA0 hval0
  refine (walk a0 a1 n1 c1 a2 n2 c2 a3 X S W w0 m1 m2 e1 e2).mono fun e W' ⟨he, bel⟩ => ?_
  subst he
  exact ⟨_, rfl, _, _, _, [], _, [], hW', trodAll_mk1 (shut_bool Yba.underlying4 _), (trodAll_cons_mk (shut_int Yba.underlying5 w0) (trodAll_cons_mk (Below.trod laidOut (by kernel_rfl) (of_decide_eq_true (by kernel_rfl)) k1 bel lt1) (trodAll_cons_mk (Below.trod laidOut (by kernel_rfl) (of_decide_eq_true (by kernel_rfl)) k2 bel lt2) (trodAll_cons_mk (shut_int Yba.underlying3 w3) trodAll_mk0)))), rfl, bel.frame _, fun h => by cases h⟩

theorem over : Rows.lawS6612BWholeRow.holds Yba.pinned (OpenSpec.ofChange Rows.lawS6612BWholeSpec) :=
  OpenClaim.holds_of_wide 3 Yba.f3 rfl rfl rfl rfl rfl rfl rfl ⟨rfl, rfl, rfl, rfl, rfl⟩ rfl rfl rfl rfl rfl (by kernel_rfl) Yba.func3 (by kernel_rfl)
    (of_decide_eq_true (by kernel_rfl)) (by unfold Func.isWrapper; first | (rw [if_pos (by decide +kernel)]; kernel_rfl) | (rw [if_neg (by decide +kernel)]; exact ⟨rfl, rfl⟩))
    (fun os started H enc _ => lifted os started H enc)

/-- The statement. -/
theorem proved : Rows.LawS6612BWholeSaid := over
#print axioms proved
end Go.Proofs.Ybulkefxi.lawS6612BWhole
