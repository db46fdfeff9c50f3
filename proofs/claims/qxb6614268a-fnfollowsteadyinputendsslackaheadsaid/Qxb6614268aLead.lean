import Derived.Test.Qxb6614268aTimes
namespace Go.Proofs.Qxb6614268a
open Go.RowKit
set_option linter.unusedVariables false

theorem i64_ok (n : Int) (h1 : -9000000000000000000 ≤ n) (h2 : n ≤ 9000000000000000000) : IntKind.i64.wrap n = n := by rw [IntKind.wrap_i64]; omega

set_option maxHeartbeats 1000000 in
theorem due17 (b : Nat) (I O i : Int) (w : World) (hI : w.cell? ⟨b, 0, none⟩ = some (.int .i64 I)) (hO1 : w.cell? ⟨b, 5, none⟩ = some (.int .u64 (O % 1000000000))) (hO2 : w.cell? ⟨b, 6, none⟩ = some (.int .i64 (O / 1000000000))) (hO3 : w.cell? ⟨b, 7, none⟩ = some (.pointer none)) (hb : b < w.heap.size)
    (h1 : 0 ≤ i) (h2 : i ≤ 4096) (h3 : 0 ≤ I) (h4 : I ≤ 68719476736) (h5 : 0 ≤ O) (h6 : O ≤ 1200000000000000000) :
    Calls Try.prog 17 #[.pointer (some ⟨b, 0, none⟩), .int .u64 i] w fun e w' => e = .returned (tm (O + i * I)) ∧ Below w.heap.size w w' := by
  have hm1 : 0 ≤ i * I := Int.mul_nonneg h1 h3
  have hm2 : i * I ≤ 4096 * 68719476736 := Int.mul_le_mul h2 h4 h3 (by decide)
  have hw0 : IntKind.i64.wrap i = i := i64_ok i (by omega) (by omega)
  obtain ⟨p, HM⟩ : ∃ p, Hid (i * I = p) := ⟨_, rfl⟩
  have hw1 : IntKind.i64.wrap (i * I) = p := (i64_ok (i * I) (by omega) (by omega)).trans HM.out
  rw [HM.out] at hm1 hm2
  rw [HM.out]
  go_enter Try.func17, Try.ntmps17
  go_wp2_with fail
  go_region_with (go_at_call 9; go_must (refine (add9 O p _ (by omega) (by omega) (by omega) (by omega)).mono ?_; rintro e w2 ⟨rfl, hb2⟩; obtain ⟨hc2, hf2⟩ := bcell hb2))
  all_goals
    go_wp2_with fail
    exact bodyPost_ret (v := tm (O + p)) (by simp [results, Try.results17, go_sem, hc2]) rfl ⟨rfl, (((((((Below.refl w.heap.size w).alloc (Nat.le_refl _) _).drew).trans (hb2.mono (by simp))).setCell (Nat.le_refl _) _).setCell (Nat.le_refl _) _).setCell (Nat.le_refl _) _)⟩

set_option maxHeartbeats 1000000 in
theorem lead18 (b : Nat) (I O i a : Int) (w : World) (hI : w.cell? ⟨b, 0, none⟩ = some (.int .i64 I)) (hO1 : w.cell? ⟨b, 5, none⟩ = some (.int .u64 (O % 1000000000))) (hO2 : w.cell? ⟨b, 6, none⟩ = some (.int .i64 (O / 1000000000))) (hO3 : w.cell? ⟨b, 7, none⟩ = some (.pointer none)) (hb : b < w.heap.size)
    (h1 : 0 ≤ i) (h2 : i ≤ 4096) (h3 : 0 ≤ I) (h4 : I ≤ 68719476736) (h5 : 0 ≤ O) (h6 : O ≤ 1200000000000000000) (h7 : 0 ≤ a) (h8 : a ≤ 2000000000000000000) :
    Calls Try.prog 18 #[.pointer (some ⟨b, 0, none⟩), .agg #[.int .u64 i, .int .u64 (a % 1000000000), .int .i64 (a / 1000000000), .pointer none]] w fun e w' => e = .returned (.int .i64 (O + i * I - a)) ∧ Below w.heap.size w w' := by
  have hm1 : 0 ≤ i * I := Int.mul_nonneg h1 h3
  have hm2 : i * I ≤ 4096 * 68719476736 := Int.mul_le_mul h2 h4 h3 (by decide)
  have HD : Hid (∀ W : World, Below w.heap.size w W → Calls Try.prog 17 #[.pointer (some ⟨b, 0, none⟩), .int .u64 i] W fun e w' => e = .returned (tm (O + i * I)) ∧ Below W.heap.size W w') :=
    fun W hW => due17 b I O i W (cell_later hW hI) (cell_later hW hO1) (cell_later hW hO2) (cell_later hW hO3) (Nat.lt_of_lt_of_le hb hW.size) h1 h2 h3 h4 h5 h6
  generalize i * I = p at *
  go_enter Try.func18, Try.ntmps18
  go_wp2_with fail
  go_region_with (first | (go_at_call 17; go_must (refine (HD.out _ ?hW).mono ?_; (case hW => exact ((Below.refl w.heap.size w).alloc (Nat.le_refl _) _).drew); rintro e w2 ⟨rfl, hb2⟩; obtain ⟨hc2, hf2⟩ := bcell hb2)) | (go_at_call 11; go_must (refine (sub (O + p) a _ (by omega) (by omega) (by omega) (by omega)).mono ?_; rintro e w3 ⟨rfl, hb3⟩)))
  all_goals
    go_wp2_with fail
    go_ret
    exact ⟨rfl, ((((Below.refl w.heap.size w).alloc (Nat.le_refl _) _).drew).trans (hb2.mono (by simp))).trans (hb3.mono (by have := hb2.size; simp at this; omega))⟩
end Go.Proofs.Qxb6614268a
