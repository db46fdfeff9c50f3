import Derived.Test.Qxb6614268aProg
import Derived.WalkKit
import Derived.WalkSpells
import Derived.WalkLawsBesides
import Derived.Deep.QuietTactic
import Derived.BigQuiet
import Derived.Deep.RegionWith
namespace Go.Proofs.Qxb6614268a
open Go.RowKit

theorem and_mask (n : Int) (h0 : 0 ≤ n) (h1 : n < 1000000000) : bits .and .u64 n 1073741823 = n := by
  rw [u64_and n 1073741823 h0 (by omega) (by decide) (by decide)]
  rw [show (1073741823 : Int).toNat = 1073741823 from rfl, nat_mask30]
  omega
theorem and_top (n : Int) (h0 : 0 ≤ n) (h1 : n < 1000000000) : bits .and .u64 n 9223372036854775808 = 0 := by
  rw [u64_and n 9223372036854775808 h0 (by omega) (by decide) (by decide)]
  rw [show (9223372036854775808 : Int).toNat = 9223372036854775808 from rfl, nat_bit63]
  omega
theorem and_two (n m : Int) (h0 : 0 ≤ n) (h1 : n < 1000000000) (h2 : 0 ≤ m) (h3 : m < 1000000000) : ∃ k : Int, bits .and .u64 n m = k ∧ 0 ≤ k ∧ k < 1000000000 := by
  refine ⟨_, u64_and n m h0 (by omega) h2 (by omega), by omega, ?_⟩
  have := Nat.and_le_left (n := n.toNat) (m := m.toNat)
  omega
theorem andNot_mask (n : Int) (h0 : 0 ≤ n) (h1 : n < 1000000000) : bits .andNot .u64 n 1073741823 = 0 := by
  rw [u64_andNot n 1073741823 h0 (by omega) (by decide) (by decide)]
  rw [show (18446744073709551615 - (1073741823 : Int).toNat : Nat) = 18446744072635809792 from rfl, nat_hi64_30]
  omega
theorem zero_or (n : Int) (h0 : 0 ≤ n) (h1 : n < 1000000000) : bits .or .u64 0 n = n := by
  rw [u64_or 0 n (by decide) (by decide) h0 (by omega)]
  simp; omega

set_option maxHeartbeats 400000 in
theorem nsec13 (b : Nat) (n : Int) (w : World) (h0 : 0 ≤ n) (h1 : n < 1000000000) (hc : w.cell? ⟨b, 0, none⟩ = some (.int .u64 n)) :
    Calls Try.prog 13 #[.pointer (some ⟨b, 0, none⟩)] w fun e w' => e = .returned (.int .i32 n) ∧ w' = w := by
  have hm := and_mask n h0 h1
  go_enter Try.func13, Try.ntmps13
  go_wp2
  go_ret
  exact ⟨rfl, rfl⟩

set_option maxHeartbeats 400000 in
theorem sec21 (b : Nat) (n x : Int) (w : World) (h0 : 0 ≤ n) (h1 : n < 1000000000) (hc : w.cell? ⟨b, 0, none⟩ = some (.int .u64 n)) (hx : w.cell? ⟨b, 1, none⟩ = some (.int .i64 x)) :
    Calls Try.prog 21 #[.pointer (some ⟨b, 0, none⟩)] w fun e w' => e = .returned (.int .i64 x) ∧ w' = w := by
  have hk := and_top n h0 h1
  go_enter Try.func21, Try.ntmps21
  go_wp2
  go_ret
  exact ⟨rfl, rfl⟩

set_option maxHeartbeats 400000 in
theorem addSec14 (b : Nat) (n x d : Int) (w : World) (h0 : 0 ≤ n) (h1 : n < 1000000000) (hc : w.cell? ⟨b, 0, none⟩ = some (.int .u64 n)) (hx : w.cell? ⟨b, 1, none⟩ = some (.int .i64 x)) (hf : w.frozen? ⟨b, 1, none⟩ = false)
   (hx1 : -4611686018427387904 ≤ x) (hx2 : x ≤ 4611686018427387904) (hd1 : -4611686018 ≤ d) (hd2 : d ≤ 4611686018) :
    Calls Try.prog 14 #[.pointer (some ⟨b, 0, none⟩), .int .i64 d] w fun e w' => e = .returned (.tuple #[]) ∧ w.setCell ⟨b, 1, none⟩ (.int .i64 (x + d)) = w' := by
  have hk := and_top n h0 h1
  by_cases hp : 0 < d
  · have hq : x < x + d := by omega
    go_enter Try.func14, Try.ntmps14
    go_wp2
    go_end0
    exact ⟨rfl, rfl⟩
  · have hq : ¬ x < x + d := by omega
    go_enter Try.func14, Try.ntmps14
    go_wp2
    go_end0
    exact ⟨rfl, rfl⟩

abbrev tv (n x : Int) : Value := .agg #[.int .u64 n, .int .i64 x, .pointer none]

set_option maxHeartbeats 1000000 in
theorem add9_core (n x d q r : Int) (w : World) (h0 : 0 ≤ n) (h1 : n < 1000000000) (hx1 : -4611686018427 ≤ x) (hx2 : x ≤ 4611686018427)
    (hq : d.tdiv 1000000000 = q) (hr : d.tmod 1000000000 = r) (hq1 : -4611686017 ≤ q) (hq2 : q ≤ 4611686017) (hr1 : -1000000000 < r) (hr2 : r < 1000000000)
    (c : Int) (hc0 : c = 0 ∨ c = 1 ∨ c = -1) (hs0 : 0 ≤ n + r - c * 1000000000) (hs1 : n + r - c * 1000000000 < 1000000000) :
    Calls Try.prog 9 #[tv n x, .int .i64 d] w fun e w' => e = .returned (tv (n + r - c * 1000000000) (x + (q + c))) ∧ Below w.heap.size w w' := by
  rcases hc0 with rfl | rfl | rfl
  · have e1 : n + r - 0 * 1000000000 = n + r := by omega
    have e2 : q + 0 = q := by omega
    rw [e1] at hs0 hs1
    rw [e1, e2]
    clear e1 e2
    have hk := and_top (n + r) hs0 hs1
    have ha := andNot_mask n h0 h1
    have ho := zero_or (n + r) hs0 hs1
    go_enter Try.func9, Try.ntmps9
    go_wp2_with fail
    refine (nsec13 _ n _ h0 h1 ?_).mono ?_
    · go_simp
    rintro e w' ⟨rfl, rfl⟩
    go_wp2_with fail
    refine (addSec14 _ (n + r) x (q) _ hs0 hs1 ?_ ?_ ?_ (by omega) (by omega) (by omega) (by omega)).mono ?_
    · go_simp
    · go_simp
    · go_simp
    rintro e w' ⟨rfl, rfl⟩
    go_wp2_with fail
    exact bodyPost_ret (v := tv (n + r) (x + (q))) (by simp [results, Try.results9, go_sem]) rfl ⟨rfl, ((Below.refl _ _).alloc (Nat.le_refl _) _).alloc (by simp) _⟩
  · have e1 : n + r - 1 * 1000000000 = n + r - 1000000000 := by omega
    have e2 : q + 1 = q + 1 := by omega
    rw [e1] at hs0 hs1
    rw [e1, e2]
    clear e1 e2
    have hk := and_top (n + r - 1000000000) hs0 hs1
    have ha := andNot_mask n h0 h1
    have ho := zero_or (n + r - 1000000000) hs0 hs1
    go_enter Try.func9, Try.ntmps9
    go_wp2_with fail
    refine (nsec13 _ n _ h0 h1 ?_).mono ?_
    · go_simp
    rintro e w' ⟨rfl, rfl⟩
    go_wp2_with fail
    refine (addSec14 _ (n + r - 1000000000) x (q + 1) _ hs0 hs1 ?_ ?_ ?_ (by omega) (by omega) (by omega) (by omega)).mono ?_
    · go_simp
    · go_simp
    · go_simp
    rintro e w' ⟨rfl, rfl⟩
    go_wp2_with fail
    exact bodyPost_ret (v := tv (n + r - 1000000000) (x + (q + 1))) (by simp [results, Try.results9, go_sem]) rfl ⟨rfl, ((Below.refl _ _).alloc (Nat.le_refl _) _).alloc (by simp) _⟩
  · have e1 : n + r - -1 * 1000000000 = n + r + 1000000000 := by omega
    have e2 : q + -1 = q - 1 := by omega
    rw [e1] at hs0 hs1
    rw [e1, e2]
    clear e1 e2
    have hk := and_top (n + r + 1000000000) hs0 hs1
    have ha := andNot_mask n h0 h1
    have ho := zero_or (n + r + 1000000000) hs0 hs1
    go_enter Try.func9, Try.ntmps9
    go_wp2_with fail
    refine (nsec13 _ n _ h0 h1 ?_).mono ?_
    · go_simp
    rintro e w' ⟨rfl, rfl⟩
    go_wp2_with fail
    refine (addSec14 _ (n + r + 1000000000) x (q - 1) _ hs0 hs1 ?_ ?_ ?_ (by omega) (by omega) (by omega) (by omega)).mono ?_
    · go_simp
    · go_simp
    · go_simp
    rintro e w' ⟨rfl, rfl⟩
    go_wp2_with fail
    exact bodyPost_ret (v := tv (n + r + 1000000000) (x + (q - 1))) (by simp [results, Try.results9, go_sem]) rfl ⟨rfl, ((Below.refl _ _).alloc (Nat.le_refl _) _).alloc (by simp) _⟩
end Go.Proofs.Qxb6614268a
