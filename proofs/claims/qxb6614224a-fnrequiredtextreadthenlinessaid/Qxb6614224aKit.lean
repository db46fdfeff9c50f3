import Derived.Test.Qxb6614224aProg
import Derived.WalkKit
import Derived.WalkSpells
import Derived.WalkLawsBesides
import Derived.Laws.EntriesVeiled
import Derived.Deep.QuietTactic
import Derived.BigQuiet
namespace Go.Proofs.Qxb6614224a
open Go.RowKit

theorem bcell {W w1 : World} (hb : Below W.heap.size W w1) : (∀ b o, b < W.heap.size → w1.cell? ⟨b, o, none⟩ = W.cell? ⟨b, o, none⟩) ∧ (∀ b o, b < W.heap.size → w1.frozen? ⟨b, o, none⟩ = W.frozen? ⟨b, o, none⟩) :=
  ⟨fun b o h => hb.cell (p := ⟨b, o, none⟩) h, fun b o h => hb.frozen (p := ⟨b, o, none⟩) h⟩

set_option maxHeartbeats 400000 in
theorem bytes6 (n m o : ByteArray) (s : Int) (w : World) (hn : n.size ≤ maxLen) (hm : m.size ≤ maxLen) (ho : o.size ≤ maxLen) :
    Calls Try.prog 6 #[.string n, .int .i64 s, .string m, .string o] w fun e w' => (∃ b, e = .returned (.bool b)) ∧ w' = w := by
  unfold maxLen at hn hm ho
  go_enter Try.func6, Try.ntmps6
  go_wp2
  all_goals
    go_ret
    exact ⟨⟨_, rfl⟩, rfl⟩

abbrev manCells (o : ByteArray) : Array Value := #[.int .i64 0, .string { data := #[] }, .int .u64 0, .int .i64 0, .pointer none, .string { data := #[] }, .string { data := #[] }, .slice none 0 0, .slice none 0 0, .string o]
abbrev item (n : ByteArray) (s : Int) (b6 b7 : Nat) : Value := .agg #[.string n, .bool false, .bool false, .bool true, .bool false, .int .i64 s, .func (.func 26) #[] #[.pointer (some ⟨b7, 0, none⟩)], .func (.func 27) #[] #[.pointer (some ⟨b6, 0, none⟩), .pointer (some ⟨b7, 0, none⟩)]]
abbrev fld : Value := .func (.func 20) #[] #[]

set_option maxHeartbeats 400000 in
theorem new9 (o : ByteArray) (w : World) :
    Calls Try.prog 9 #[.string o] w fun e w' => e = .returned (.pointer (some ⟨w.heap.size, 0, none⟩)) ∧ w.alloc (.cells (manCells o) 55) = w' := by
  go_enter Try.func9, Try.ntmps9
  go_wp2
  go_ret
  exact ⟨rfl, rfl⟩

set_option maxHeartbeats 400000 in
theorem new15 (f v s : ByteArray) (w : World) :
    Calls Try.prog 15 #[.string f, .string v, .string s] w fun e w' => e = .returned (.agg #[.string f, .string v, .string s]) ∧ Below w.heap.size w w' := by
  go_enter Try.func15, Try.ntmps15
  go_wp2
  exact bodyPost_ret (v := .agg #[.string f, .string v, .string s]) (by simp [results, Try.results15, go_sem]) rfl ⟨rfl, (Below.refl _ _).alloc (Nat.le_refl _) _⟩

abbrev itemCells (n : ByteArray) (s : Int) (b6 b7 : Nat) : Array Value := #[.string n, .bool false, .bool false, .bool true, .bool false, .int .i64 s, .func (.func 26) #[] #[.pointer (some ⟨b7, 0, none⟩)], .func (.func 27) #[] #[.pointer (some ⟨b6, 0, none⟩), .pointer (some ⟨b7, 0, none⟩)]]

set_option maxHeartbeats 400000 in
theorem req19 (n m : ByteArray) (s : Int) (w : World) :
    Calls Try.prog 19 #[.string n, .int .i64 s, .string m, fld] w fun e w' => e = .returned (item n s w.heap.size (w.heap.size + 1)) ∧ ((w.alloc (.cells #[.string m] 9)).alloc (.cells #[fld] 56)).alloc (.cells (itemCells n s w.heap.size (w.heap.size + 1)) 26) = w' := by
  have hmf : ∀ (fn : Fn) (first cap : Array Value) (w : World), (Instr.makeFunc fn first cap).run Try.prog w = .ok (.func fn first cap) w := fun _ _ _ _ => rfl
  go_enter Try.func19, Try.ntmps19
  go_wp2
  exact bodyPost_ret (v := item n s w.heap.size (w.heap.size + 1)) (by simp [results, Try.results19, go_sem]) rfl ⟨rfl, rfl⟩

set_option maxHeartbeats 400000 in
theorem req7 (n m : ByteArray) (s : Int) (w : World) :
    Calls Try.prog 7 #[.string n, .int .i64 s, .string m] w fun e w' => e = .returned (item n s (w.heap.size + 1) (w.heap.size + 2)) ∧ w'.cell? ⟨w.heap.size + 1, 0, none⟩ = some (.string m) ∧ w'.cell? ⟨w.heap.size + 2, 0, none⟩ = some fld ∧ w.heap.size + 4 = w'.heap.size ∧ Below w.heap.size w w' := by
  go_enter Try.func7, Try.ntmps7
  go_wp2_with fail
  refine (req19 n m s _).mono ?_
  rintro e w' ⟨rfl, rfl⟩
  go_wp2_with fail
  exact bodyPost_ret (v := item n s (w.heap.size + 1) (w.heap.size + 1 + 1)) (by simp [results, Try.results7, go_sem]) rfl ⟨rfl, by simp [go_sem], by simp [go_sem], by simp, ((((Below.refl _ _).alloc (Nat.le_refl _) _).alloc (by simp) _).alloc (by simp; omega) _).alloc (by simp; omega) _⟩

set_option maxHeartbeats 400000 in
theorem out12 (b : Nat) (o : ByteArray) (w : World) (h : w.cell? ⟨b, 9, none⟩ = some (.string o)) :
    Calls Try.prog 12 #[.pointer (some ⟨b, 0, none⟩)] w fun e w' => e = .returned (.string o) ∧ w' = w := by
  go_enter Try.func12, Try.ntmps12
  go_wp2
  go_ret
  exact ⟨rfl, rfl⟩

set_option maxHeartbeats 400000 in
theorem fields11 (f v s : ByteArray) (w : World) :
    Calls Try.prog 11 #[.agg #[.string f, .string v, .string s]] w fun e w' => e = .returned (.tuple #[.string f, .string v, .string s]) ∧ Below w.heap.size w w' := by
  go_enter Try.func11, Try.ntmps11
  go_wp2
  go_quiet (fail)
  go_wp2
  go_ret3
  exact ⟨rfl, below_drewN ((Below.refl _ _).alloc (Nat.le_refl _) _) _⟩

set_option maxHeartbeats 400000 in
theorem head21 (n : ByteArray) (s : Int) (b6 b7 : Nat) (w : World) :
    Calls Try.prog 21 #[item n s b6 b7] w fun e w' => e = .returned (.tuple #[.string n, .bool false, .bool false, .bool true, .bool false, .int .i64 s]) ∧ Below w.heap.size w w' := by
  go_enter Try.func21, Try.ntmps21
  go_wp2
  go_quiet (fail)
  go_wp2
  exact bodyPost_ret (v := .tuple #[.string n, .bool false, .bool false, .bool true, .bool false, .int .i64 s]) (by simp [results, Try.results21, go_sem]) rfl ⟨rfl, below_drewN ((Below.refl _ _).alloc (Nat.le_refl _) _) _⟩

set_option maxHeartbeats 400000 in
theorem fld20 (b : Nat) (w : World) :
    Calls Try.prog 20 #[.pointer (some ⟨b, 0, none⟩)] w fun e w' => e = .returned (.pointer (some ⟨b, 9, none⟩)) ∧ w' = w := by
  go_enter Try.func20, Try.ntmps20
  go_wp2
  go_ret
  exact ⟨rfl, rfl⟩

set_option maxHeartbeats 400000 in
theorem err28 (m : ByteArray) (w : World) :
    Calls Try.prog 28 #[.string m] w fun e w' => e = .returned (.iface 70 (.pointer (some ⟨w.heap.size, 0, none⟩))) ∧ Below w.heap.size w w' := by
  go_enter Try.func28, Try.ntmps28
  go_wp2
  go_ret
  exact ⟨rfl, (Below.refl _ _).alloc (Nat.le_refl _) _⟩
end Go.Proofs.Qxb6614224a
