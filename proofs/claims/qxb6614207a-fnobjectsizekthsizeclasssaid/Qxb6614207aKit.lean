import Derived.Test.Qxb6614207aProg
import Derived.WalkKit
import Derived.WalkSpells
import Derived.WalkLawsBesides
namespace Go.Proofs.Qxb6614207a
open Go.RowKit

theorem andNot7 (a : Int) (h1 : 0 ≤ a) (h2 : a < 18446744073709551616) : bits .andNot .u64 a 7 = a / 8 * 8 := by
  rw [u64_andNot a 7 h1 h2 (by decide) (by decide)]
  rw [show (18446744073709551615 - (7 : Int).toNat : Nat) = 18446744073709551608 from rfl, nat_hi64_3]
  omega

theorem andNot15 (a : Int) (h1 : 0 ≤ a) (h2 : a < 18446744073709551616) : bits .andNot .u64 a 15 = a / 16 * 16 := by
  rw [u64_andNot a 15 h1 h2 (by decide) (by decide)]
  rw [show (18446744073709551615 - (15 : Int).toNat : Nat) = 18446744073709551600 from rfl, nat_hi64_4]
  omega

def objSize (n : Int) : Int := if n ≤ 32 then (n + 7) / 8 * 8 else (n + 15) / 16 * 16
def classAt (k : Int) : Int := if k ≤ 4 then 8 * k else 16 * k - 32

set_option maxHeartbeats 400000 in
theorem classAt_any (k : Int) (w : World) (h0 : 0 ≤ k) (h1 : k ≤ 576460752303423487) :
    Calls Try.prog 10 #[.int .i64 k] w fun e w' => e = .returned (.int .i64 (classAt k)) ∧ w' = w := by
  by_cases h : k ≤ 4
  · rw [show classAt k = 8 * k from if_pos h]
    go_enter Try.func10, Try.ntmps10
    go_wp2
    go_ret
    exact ⟨rfl, rfl⟩
  · rw [show classAt k = 16 * k - 32 from if_neg h]
    go_enter Try.func10, Try.ntmps10
    go_wp2
    go_ret
    exact ⟨rfl, rfl⟩

set_option maxHeartbeats 400000 in
theorem objSize_any (n : Int) (w : World) (h0 : 0 ≤ n) (h1 : n ≤ 9223372036854775792) :
    Calls Try.prog 11 #[.int .u64 n] w fun e w' => e = .returned (.int .i64 (objSize n)) ∧ w' = w := by
  by_cases h : n ≤ 32
  · rw [show objSize n = (n + 7) / 8 * 8 from if_pos h]
    have hb := andNot7 (n + 7) (by omega) (by omega)
    go_enter Try.func11, Try.ntmps11
    go_wp2
    go_ret
    exact ⟨rfl, rfl⟩
  · rw [show objSize n = (n + 15) / 16 * 16 from if_neg h]
    have hb := andNot15 (n + 15) (by omega) (by omega)
    go_enter Try.func11, Try.ntmps11
    go_wp2
    go_ret
    exact ⟨rfl, rfl⟩
end Go.Proofs.Qxb6614207a
