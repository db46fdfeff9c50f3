import Derived.Test.Qxb6614323aProg
import Derived.WalkKit
import Derived.WalkSpells
import Derived.WalkLawsBesides
import Derived.Laws.EntriesVeiled
import Derived.Deep.QuietTactic
import Derived.BigQuiet
import Derived.LoopN
namespace Go.Proofs.Qxb6614323a
open Go.RowKit
set_option linter.unusedVariables false

def AnyB (e : Ending) : Prop := ∃ b, e = .returned (.bool b)
theorem anyB (b : Bool) : AnyB (.returned (.bool b)) := ⟨b, rfl⟩

set_option maxHeartbeats 400000 in
theorem bytes4 (nb no n cap : Nat) (xs : Nat → ByteArray) (c : Int) (w : World) (hn : n ≤ maxLen) (hs : ∀ i, (xs i).size ≤ maxLen) (hc : ∀ i, i < n → w.cell? ⟨nb, no + i, none⟩ = some (.string (xs i))) :
    Calls Try.prog 4 #[.slice (some ⟨nb, no, none⟩) n cap, .int .i64 c] w fun e w' => AnyB e ∧ w' = w := by
  unfold maxLen at hn hs
  go_enter Try.func4, Try.ntmps4
  go_wp2
  · go_ret
    exact ⟨anyB _, rfl⟩
  go_loop [5, 6] (fun z i => ∃ k : Nat, ∃ s : Int, k ≤ n ∧ i = .int .i64 k ∧ z = .int .i64 s ∧ 0 ≤ s ∧ s ≤ 1048576) (fun _ i => n - (intOf i).toNat)
  case atStart => exact ⟨0, n, Nat.zero_le _, rfl, rfl, by omega, by omega⟩
  case round =>
    obtain ⟨k, s, hk, rfl, rfl, hs0, hs1⟩ := hrel
    by_cases hlt : k < n
    · have hcell := hc k hlt
      have hsz := hs k
      clear hc hs
      generalize xs k = x at *
      go_wp2
      · go_ret
        first | exact ⟨anyB _, rfl⟩ | exact anyB _
      · go_ret
        first | exact ⟨anyB _, rfl⟩ | exact anyB _
      · go_round
        case rel => exact ⟨k + 1, _, by omega, by go_num, rfl, by omega, by omega⟩
        case measure => simp [intOf]; omega
    · go_wp2
      go_ret
      exact ⟨anyB _, rfl⟩

set_option maxHeartbeats 400000 in
theorem bytes4z (a : Option Addr) (cap : Nat) (c : Int) (w : World) :
    Calls Try.prog 4 #[.slice a 0 cap, .int .i64 c] w fun e w' => AnyB e ∧ w' = w := by
  go_enter Try.func4, Try.ntmps4
  go_wp2
  refine wp_loop_rounds 1 ?_
  rw [rounds_succ]
  go_wp2
  go_ret
  exact ⟨anyB _, rfl⟩

set_option maxHeartbeats 400000 in
theorem big5 (nb no n cap : Nat) (xs : Nat → ByteArray) (w : World) (hn : n ≤ maxLen) (hs : ∀ i, (xs i).size ≤ maxLen) (hc : ∀ i, i < n → w.cell? ⟨nb, no + i, none⟩ = some (.string (xs i))) :
    Calls Try.prog 5 #[.int .i64 0, .slice (some ⟨nb, no, none⟩) n cap] w fun e w' => AnyB e ∧ w' = w := by
  unfold maxLen at hn hs
  go_enter Try.func5, Try.ntmps5
  go_wp2
  go_loop [5, 6] (fun z i => ∃ k : Nat, ∃ s : Int, k ≤ n ∧ i = .int .i64 k ∧ z = .int .i64 s ∧ 0 ≤ s ∧ s ≤ 1048576) (fun _ i => n - (intOf i).toNat)
  case atStart => exact ⟨0, 0, Nat.zero_le _, rfl, rfl, by omega, by omega⟩
  case round =>
    obtain ⟨k, s, hk, rfl, rfl, hs0, hs1⟩ := hrel
    by_cases hlt : k < n
    · have hcell := hc k hlt
      have hsz := hs k
      clear hc hs
      generalize xs k = x at *
      go_wp2
      · go_ret
        first | exact ⟨anyB _, rfl⟩ | exact anyB _
      · go_ret
        first | exact ⟨anyB _, rfl⟩ | exact anyB _
      · go_round
        case rel => exact ⟨k + 1, _, by omega, by go_num, rfl, by omega, by omega⟩
        case measure => simp [intOf]; omega
    · go_wp2
      go_ret
      exact ⟨anyB _, rfl⟩

set_option maxHeartbeats 400000 in
theorem big5z (a : Option Addr) (cap : Nat) (w : World) :
    Calls Try.prog 5 #[.int .i64 0, .slice a 0 cap] w fun e w' => e = .returned (.bool false) ∧ w' = w := by
  go_enter Try.func5, Try.ntmps5
  go_wp2
  refine wp_loop_rounds 1 ?_
  rw [rounds_succ]
  go_wp2
  go_ret
  exact ⟨rfl, rfl⟩

set_option maxHeartbeats 400000 in
theorem new6 (w : World) :
    Calls Try.prog 6 #[.slice none 0 0, .nilIface] w fun e w' => ∃ p, e = .returned (.pointer (some p)) ∧ Below w.heap.size w w' := by
  have hmm := @run_makeMap Try.prog
  go_enter Try.func6, Try.ntmps6
  go_wp2
  go_ret
  exact ⟨_, rfl, ((Below.refl _ _).alloc (Nat.le_refl _) _).alloc (by simp) _⟩

set_option maxHeartbeats 400000 in
theorem same8 (h1 h2 : Nat) (s : ByteArray) (w : World) (c1 : w.cell? ⟨h1, 0, none⟩ = some (.string s)) (c2 : w.cell? ⟨h2, 0, none⟩ = some (.string s)) :
    Calls Try.prog 8 #[.slice (some ⟨h1, 0, none⟩) 1 1, .slice (some ⟨h2, 0, none⟩) 1 1] w fun e w' => e = .returned (.bool true) ∧ Below w.heap.size w w' := by
  go_enter Try.func8, Try.ntmps8
  go_wp2
  refine wp_loop_rounds 2 ?_
  rw [rounds_succ]
  go_wp2
  go_quiet (fail)
  go_wp2
  rw [rounds_succ]
  go_wp2
  go_ret
  exact ⟨rfl, below_drewN (Below.refl _ _) _⟩
end Go.Proofs.Qxb6614323a
