/-
  zzs6613bsame64 (function 8) and zzs6613bsameint (7) at two slices of the same numbers.
-/
import Derived.Test.YbulkefxwRows
import Derived.WalkKit
import Derived.ProofKit
import Derived.WalkSpells
import Derived.WalkLawsBesides
import Derived.Below
import Derived.WalkSmall
import Derived.BigQuiet
import Derived.Deep.QuietTactic
namespace Go.Proofs.Ybulkefxw
open Go.RowKit Go.Lib

/-- A slice of one-cell elements: it has none, or they lie at an address. -/
def Lies (w : World) (a : Option Addr) (n : Nat) (C : Nat → Value) : Prop :=
  n = 0 ∨ ∃ b off, a = some ⟨b, off, none⟩ ∧ b < w.heap.size ∧ ∀ i, i < n → w.cell? ⟨b, off + i, none⟩ = some (C i)

theorem Lies.below {w w' : World} {a : Option Addr} {n : Nat} {C : Nat → Value} (h : Lies w a n C) (hb : Below w.heap.size w w') : Lies w' a n C := by
  rcases h with h | ⟨b, off, ha, hl, hc⟩
  · exact .inl h
  · exact .inr ⟨b, off, ha, Nat.lt_of_lt_of_le hl hb.size, fun i hi => (hb.cell hl).trans (hc i hi)⟩
theorem Lies.drewN {w : World} {a : Option Addr} {n : Nat} {C : Nat → Value} (h : Lies w a n C) (m : Nat) : Lies (w.drewN m) a n C := h

set_option maxHeartbeats 1000000 in
theorem same64 (p q : Option Addr) (n c d : Nat) (X : Nat → Int) (w : World) (hn : n ≤ 1048576) (hp : Lies w p n (fun i => .int .i64 (X i))) (hq : Lies w q n (fun i => .int .i64 (X i))) :
    Calls Yba.prog 8 #[.slice p n c, .slice q n d] w fun e w' => e = .returned (.bool true) ∧ ∃ m, w' = w.drewN m := by
  have HP : Hid (Lies w p n (fun i => .int .i64 (X i))) := hp
  have HQ : Hid (Lies w q n (fun i => .int .i64 (X i))) := hq
  clear hp hq
  go_enter Yba.func8, Yba.ntmps8
  go_wp2_with fail
  go_loopw [5] (fun i wx => ∃ k : Nat, k ≤ n ∧ i = .int .i64 k ∧ ∃ m, wx = w.drewN m) (fun i _ => n - (intOf i).toNat)
  case atStart => exact ⟨0, Nat.zero_le _, rfl, 0, rfl⟩
  case round =>
    obtain ⟨k, hk, rfl, m, rfl⟩ := hrel
    by_cases hlt : k < n
    · obtain ⟨b1, o1, rfl, _, hc1⟩ := HP.out.resolve_left (by omega)
      obtain ⟨b2, o2, rfl, _, hc2⟩ := HQ.out.resolve_left (by omega)
      have e1 := hc1 k hlt
      have e2 := hc2 k hlt
      clear hc1 hc2 HP HQ
      go_wp2_with fail
      go_quiet (fail)
      go_wp2_with fail
      go_roundw
      case rel => exact ⟨k + 1, by omega, by go_num, _, rfl⟩
      case measure => simp [intOf]; omega
    · go_wp2
      go_ret
      exact ⟨rfl, m, rfl⟩

set_option maxHeartbeats 1000000 in
theorem sameint (p q : Option Addr) (n c d : Nat) (X : Nat → Int) (w : World) (hn : n ≤ 1048576) (hp : Lies w p n (fun i => .int .i64 (X i))) (hq : Lies w q n (fun i => .int .i64 (X i))) :
    Calls Yba.prog 7 #[.slice p n c, .slice q n d] w fun e w' => e = .returned (.bool true) ∧ ∃ m, w' = w.drewN m := by
  have HP : Hid (Lies w p n (fun i => .int .i64 (X i))) := hp
  have HQ : Hid (Lies w q n (fun i => .int .i64 (X i))) := hq
  clear hp hq
  go_enter Yba.func7, Yba.ntmps7
  go_wp2_with fail
  go_loopw [5] (fun i wx => ∃ k : Nat, k ≤ n ∧ i = .int .i64 k ∧ ∃ m, wx = w.drewN m) (fun i _ => n - (intOf i).toNat)
  case atStart => exact ⟨0, Nat.zero_le _, rfl, 0, rfl⟩
  case round =>
    obtain ⟨k, hk, rfl, m, rfl⟩ := hrel
    by_cases hlt : k < n
    · obtain ⟨b1, o1, rfl, _, hc1⟩ := HP.out.resolve_left (by omega)
      obtain ⟨b2, o2, rfl, _, hc2⟩ := HQ.out.resolve_left (by omega)
      have e1 := hc1 k hlt
      have e2 := hc2 k hlt
      clear hc1 hc2 HP HQ
      go_wp2_with fail
      go_quiet (fail)
      go_wp2_with fail
      go_roundw
      case rel => exact ⟨k + 1, by omega, by go_num, _, rfl⟩
      case measure => simp [intOf]; omega
    · go_wp2
      go_ret
      exact ⟨rfl, m, rfl⟩

end Go.Proofs.Ybulkefxw
