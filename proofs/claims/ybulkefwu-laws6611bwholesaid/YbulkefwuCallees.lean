/-
  The callees of LawS6611BWhole at this program: slices.Clone (function 4), cutSuffix (5), bytes.Equal (6), each by a contract.
-/
import Derived.Test.YbulkefwuRows
import Derived.WalkKit
import Derived.ProofKit
import Derived.WalkSpells
import Derived.Lib.SliceRun
import Derived.Lib.AppendStr
import Derived.Lib.Strings

import Derived.Laws.BytesArg
import Derived.Below
namespace Go.Proofs.Ybulkefwu
open Go.RowKit Go.Lib

theorem Yba.info5 : (Yba.prog.info? 5).map (fun i => (i.zero, i.size, i.bytes)) = some (some (.int .u8 0), 1, 1) := by kernel_rfl

/-- 's == nil' at []byte. -/
theorem eqlNil : ∀ (w : World) (a : Option Addr) (n c n' c' : Nat), (binOp .eql 22 (.slice a n c) (.slice none n' c')).run Yba.prog w = .ok (.bool a.isNone) w :=
  fun w a n c n' c' => Lib.run_eql_slice_nil w _ _ a n c n' c' Yba.underlying22

set_option maxHeartbeats 1000000 in
/-- slices.Clone of a slice that is not nil. -/
theorem clone_at (a : Addr) (n c : Nat) (xs : List Int) (w : World) (hx : xs.length = n) (hbig : n ≤ 140737488355328) (hc : ∀ i, i < n → w.cell? (a.add i) = some (.int .u8 (xs.getD i 0))) :
    Calls Yba.prog 4 #[.slice (some a) n c] w fun e w' => ∃ v', e = .returned v' ∧ w'.ownsRow w.heap.size 5 1 v' n (xs.map (Value.int .u8)) ∧ v' ≠ .slice none 0 0 ∧ Below w.heap.size w w' := by
  obtain ⟨i0, hi, hz0, hz1, hz2⟩ := info_parts Yba.info5
  have q22 := eqlNil
  have A : Hid (∀ i, i < n → w.cell? (a.add i) = some (.int .u8 (xs.getD i 0))) := hc
  clear hc
  go_enter Yba.func4, Yba.ntmps4
  go_wp2_with (at_builtin; refine wpList_append_own _ rfl _ _ 22 rfl w.heap.size 5 i0 (.int .u8 0) 1 1 Yba.underlying22 hi hz0 hz1 hz2 rfl (by decide) _ _ _ rfl (World.ownsRow_made w #[] 0 (Nat.le_refl _) (Nat.zero_le _) rfl) a n c (xs.map (Value.int .u8)) rfl ?qc1 ?qc2 ?qc3 ?qc4 ?qc5 ?qc6 ?_)
  case qc1 => simp; omega
  case qc2 =>
    intro j u hj
    have hjn : j < n := by
      have := (List.getElem?_eq_some_iff.1 hj).1
      simp at this
      omega
    refine Lib.cell?_alloc_some _ ?_
    rw [A.out j hjn]
    have e : (xs.map (Value.int .u8))[j]? = some (Value.int .u8 (xs.getD j 0)) := by simp [List.getD, List.getElem?_eq_getElem (show j < xs.length by omega)]
    rw [e] at hj
    exact hj
  case qc3 => intro u hu; obtain ⟨x, _, rfl⟩ := List.mem_map.1 hu; rfl
  case qc4 => unfold maxLen; omega
  case qc5 => omega
  case qc6 => simp
  intro v' w1 hown hgrow hnil
  go_wp2
  go_ret
  refine ⟨v', rfl, by simpa using hown, ?_, ?_⟩
  · first | exact hnil | (intro e; exact absurd (hnil.1 e).1 (by simp))
  · exact ((Below.refl _ w).alloc (Nat.le_refl _) _).grown hgrow (by simp) (by intro k hk; simp [Value.ownBlock] at hk; omega)

/-- slices.Clone of nil: nil. -/
theorem clone_nil (n c : Nat) (w : World) :
    Calls Yba.prog 4 #[.slice none n c] w fun e w' => e = .returned (.slice none 0 0) ∧ w' = w := by
  have q22 := eqlNil
  go_enter Yba.func4, Yba.ntmps4
  go_wp2
  go_ret
  exact ⟨rfl, rfl⟩

/-- bytes.Equal, each argument with what 'string(..)' of it gives. -/
theorem equal_strs (v1 v2 : Value) (t1 t2 : ByteArray) (w : World) (h1 : (convert 22 9 v1).run Yba.prog w = .ok (.string t1) w) (h2 : (convert 22 9 v2).run Yba.prog w = .ok (.string t2) w) :
    Calls Yba.prog 6 #[v1, v2] w fun e w' => e = .returned (.bool (t1.toList == t2.toList)) ∧ w' = w := by
  go_enter Yba.func6, Yba.ntmps6
  go_wp2
  go_ret
  exact ⟨rfl, rfl⟩


/-- cutSuffix where the slice is shorter than the suffix: the slice itself, false. -/
theorem cut_short (a : Option Addr) (n c : Nat) (s : ByteArray) (w : World) (hn : n < s.size) :
    Calls Yba.prog 5 #[.slice a n c, .string s] w fun e w' => e = .returned (.tuple #[.slice a n c, .bool false]) ∧ w' = w := by
  have h1 : ((n : Int) < (s.size : Int)) := by omega
  go_enter Yba.func5, Yba.ntmps5
  go_wp2
  go_ret2
  exact ⟨rfl, rfl⟩

/-- cutSuffix of nil by the empty suffix. -/
theorem cut_nil (s : ByteArray) (w : World) (hs : s.size = 0) :
    Calls Yba.prog 5 #[.slice none 0 0, .string s] w fun e w' => e = .returned (.tuple #[.slice none 0 0, .bool true]) ∧ w' = w := by
  have he : s.toList.isEmpty = true := by rw [ByteArray.toList_eq, List.isEmpty_iff_length_eq_zero, ← Lib.size_eq]; exact hs
  have hk : ∀ w l c, (convert 22 9 (.slice none l c)).run Yba.prog w = .ok (.string ByteArray.empty) w := fun w l c => run_convert_bytes_nil w 22 5 Yba.underlying22 Yba.underlying5 l c 9 Yba.underlying9
  go_enter Yba.func5, Yba.ntmps5
  go_wp2
  go_ret2
  exact ⟨rfl, rfl⟩

/-- cutSuffix of a slice that is not nil and not shorter than the suffix. -/
theorem cut_at (b off n c : Nat) (xs : List Int) (s : ByteArray) (w : World) (hx : xs.length = n) (hnc : n ≤ c) (hn : s.size ≤ n) (hb : n ≤ 4194304) (hc : ∀ i, i < n → w.cell? ⟨b, off + i, none⟩ = some (.int .u8 (xs.getD i 0)))
    (f : Bool) (hf : ((strOfNums (xs.drop (n - s.size))).toList == s.toList) = f) :
    Calls Yba.prog 5 #[.slice (some ⟨b, off, none⟩) n c, .string s] w fun e w' => e = .returned (.tuple #[.slice (some ⟨b, off, none⟩) (if f then n - s.size else n) c, .bool f]) ∧ w' = w := by
  have hk1 : ∀ c', (convert 22 9 (.slice (some ⟨b, off + (n - s.size), none⟩) (n - (n - s.size)) c')).run Yba.prog w = .ok (.string (strOfNums (xs.drop (n - s.size)))) w := fun c' =>
    run_convert_bytes_arg w 22 5 Yba.underlying22 Yba.underlying5 b (off + (n - s.size)) (n - (n - s.size)) c' (xs.drop (n - s.size)) (by simp [hx]) (fun i hi => by
      rw [show off + (n - s.size) + i = off + ((n - s.size) + i) from by omega, hc _ (by omega)]
      simp [List.getD]) 9 Yba.underlying9
  have hk2 : c = n - s.size → ∀ c', (convert 22 9 (.slice (some ⟨b, off, none⟩) (n - (n - s.size)) c')).run Yba.prog w = .ok (.string (strOfNums (xs.drop (n - s.size)))) w := fun h c' =>
    run_convert_bytes_arg w 22 5 Yba.underlying22 Yba.underlying5 b off (n - (n - s.size)) c' (xs.drop (n - s.size)) (by simp [hx]) (fun i hi => by omega) 9 Yba.underlying9
  generalize strOfNums (xs.drop (n - s.size)) = t at *
  clear hc
  have hlt : decide ((n : Int) < (s.size : Int)) = false := decide_eq_false (by omega)
  by_cases hcc : c = n - s.size
  · cases f
    · go_enter Yba.func5, Yba.ntmps5
      go_wp2
      go_ret2
      exact ⟨rfl, rfl⟩
    · go_enter Yba.func5, Yba.ntmps5
      go_wp2
      go_ret2
      exact ⟨rfl, rfl⟩
  · cases f
    · go_enter Yba.func5, Yba.ntmps5
      go_wp2
      go_ret2
      exact ⟨rfl, rfl⟩
    · go_enter Yba.func5, Yba.ntmps5
      go_wp2
      go_ret2
      exact ⟨rfl, rfl⟩

end Go.Proofs.Ybulkefwu
