import Derived.Test.Qxb6614268aTime
namespace Go.Proofs.Qxb6614268a
open Go.RowKit
set_option linter.unusedVariables false

theorem tdm (d : Int) : d = 1000000000 * d.tdiv 1000000000 + d.tmod 1000000000 ∧ -1000000000 < d.tmod 1000000000 ∧ d.tmod 1000000000 < 1000000000 := by
  have h := Int.mul_tdiv_add_tmod d 1000000000
  have h1 := Int.tmod_lt_of_pos d (b := 1000000000) (by decide)
  have h2 := Int.lt_tmod_of_pos d (b := 1000000000) (by decide)
  refine ⟨h.symm, by omega, h1⟩

theorem bcell {W w1 : World} (hb : Below W.heap.size W w1) : (∀ b o, b < W.heap.size → w1.cell? ⟨b, o, none⟩ = W.cell? ⟨b, o, none⟩) ∧ (∀ b o, b < W.heap.size → w1.frozen? ⟨b, o, none⟩ = W.frozen? ⟨b, o, none⟩) :=
  ⟨fun b o h => hb.cell (p := ⟨b, o, none⟩) h, fun b o h => hb.frozen (p := ⟨b, o, none⟩) h⟩

abbrev tm (t : Int) : Value := tv (t % 1000000000) (t / 1000000000)

theorem add9 (t d : Int) (w : World) (ht1 : -4600000000000000000 ≤ t) (ht2 : t ≤ 4600000000000000000) (hd1 : -4600000000000000000 ≤ d) (hd2 : d ≤ 4600000000000000000) :
    Calls Try.prog 9 #[tm t, .int .i64 d] w fun e w' => e = .returned (tm (t + d)) ∧ Below w.heap.size w w' := by
  obtain ⟨h, h1, h2⟩ := tdm d
  generalize hq : d.tdiv 1000000000 = q at *
  generalize hr : d.tmod 1000000000 = r at *
  have n0 : 0 ≤ t % 1000000000 := by omega
  have n1 : t % 1000000000 < 1000000000 := by omega
  have key : ∀ c : Int, (c = 0 ∨ c = 1 ∨ c = -1) → 0 ≤ t % 1000000000 + r - c * 1000000000 → t % 1000000000 + r - c * 1000000000 < 1000000000 →
      Calls Try.prog 9 #[tm t, .int .i64 d] w fun e w' => e = .returned (tm (t + d)) ∧ Below w.heap.size w w' := by
    intro c hc hs0 hs1
    have e1 : (t + d) % 1000000000 = t % 1000000000 + r - c * 1000000000 := by omega
    have e2 : (t + d) / 1000000000 = t / 1000000000 + (q + c) := by omega
    show Calls Try.prog 9 #[tv (t % 1000000000) (t / 1000000000), .int .i64 d] w fun e w' => e = .returned (tv ((t + d) % 1000000000) ((t + d) / 1000000000)) ∧ Below w.heap.size w w'
    rw [e1, e2]
    exact add9_core _ _ d q r w n0 n1 (by omega) (by omega) hq hr (by omega) (by omega) h1 h2 c hc hs0 hs1
  by_cases g1 : 1000000000 ≤ t % 1000000000 + r
  · exact key 1 (by omega) (by omega) (by omega)
  · by_cases g2 : t % 1000000000 + r < 0
    · exact key (-1) (by omega) (by omega) (by omega)
    · exact key 0 (by omega) (by omega) (by omega)

set_option maxHeartbeats 400000 in
theorem isZero16 (n x : Int) (w : World) :
    Calls Try.prog 16 #[tv n x] w fun e w' => e = .returned (.bool (n == 0 && x == 0)) ∧ Below w.heap.size w w' := by
  by_cases h : n = 0
  · subst h
    go_enter Try.func16, Try.ntmps16
    go_wp2
    go_ret
    exact ⟨by simp, (Below.refl _ _).alloc (Nat.le_refl _) _⟩
  · have h' : (n == 0) = false := by simp [h]
    go_enter Try.func16, Try.ntmps16
    go_wp2
    go_ret
    exact ⟨by simp [h], (Below.refl _ _).alloc (Nat.le_refl _) _⟩

set_option maxHeartbeats 1000000 in
theorem before19_core (n x m y : Int) (w : World) (h0 : 0 ≤ n) (h1 : n < 1000000000) (g0 : 0 ≤ m) (g1 : m < 1000000000) :
    Calls Try.prog 19 #[tv n x, tv m y] w fun e w' => e = .returned (.bool (decide (x < y) || (x == y && decide (n < m)))) ∧ Below w.heap.size w w' := by
  obtain ⟨k, hk, k0, k1⟩ := and_two n m h0 h1 g0 g1
  have hk2 := and_top k k0 k1
  by_cases c1 : x < y
  · go_enter Try.func19, Try.ntmps19
    go_wp2_with fail
    refine (sec21 _ n x _ h0 h1 ?_ ?_).mono ?_
    · go_simp
    · go_simp
    rintro e w' ⟨rfl, rfl⟩
    go_wp2_with fail
    refine (sec21 _ m y _ g0 g1 ?_ ?_).mono ?_
    · go_simp
    · go_simp
    rintro e w' ⟨rfl, rfl⟩
    go_wp2_with fail
    go_ret
    exact ⟨by simp [c1], ((Below.refl _ _).alloc (Nat.le_refl _) _).alloc (by simp) _⟩
  · by_cases c2 : x = y
    · subst c2
      go_enter Try.func19, Try.ntmps19
      go_wp2_with fail
      refine (sec21 _ n x _ h0 h1 ?_ ?_).mono ?_
      · go_simp
      · go_simp
      rintro e w' ⟨rfl, rfl⟩
      go_wp2_with fail
      refine (sec21 _ m x _ g0 g1 ?_ ?_).mono ?_
      · go_simp
      · go_simp
      rintro e w' ⟨rfl, rfl⟩
      go_wp2_with fail
      refine (nsec13 _ n _ h0 h1 ?_).mono ?_
      · go_simp
      rintro e w' ⟨rfl, rfl⟩
      go_wp2_with fail
      refine (nsec13 _ m _ g0 g1 ?_).mono ?_
      · go_simp
      rintro e w' ⟨rfl, rfl⟩
      go_wp2_with fail
      go_ret
      exact ⟨by simp, ((Below.refl _ _).alloc (Nat.le_refl _) _).alloc (by simp) _⟩
    · have c2' : (x == y) = false := by simp [c2]
      go_enter Try.func19, Try.ntmps19
      go_wp2_with fail
      refine (sec21 _ n x _ h0 h1 ?_ ?_).mono ?_
      · go_simp
      · go_simp
      rintro e w' ⟨rfl, rfl⟩
      go_wp2_with fail
      refine (sec21 _ m y _ g0 g1 ?_ ?_).mono ?_
      · go_simp
      · go_simp
      rintro e w' ⟨rfl, rfl⟩
      go_wp2_with fail
      go_ret
      exact ⟨by simp [c2], ((Below.refl _ _).alloc (Nat.le_refl _) _).alloc (by simp) _⟩

set_option maxHeartbeats 1000000 in
theorem equal22_core (n x m y : Int) (w : World) (h0 : 0 ≤ n) (h1 : n < 1000000000) (g0 : 0 ≤ m) (g1 : m < 1000000000) :
    Calls Try.prog 22 #[tv n x, tv m y] w fun e w' => e = .returned (.bool (x == y && n == m)) ∧ Below w.heap.size w w' := by
  obtain ⟨k, hk, k0, k1⟩ := and_two n m h0 h1 g0 g1
  have hk2 := and_top k k0 k1
  by_cases c2 : x = y
  · subst c2
    go_enter Try.func22, Try.ntmps22
    go_wp2_with fail
    refine (sec21 _ n x _ h0 h1 ?_ ?_).mono ?_
    · go_simp
    · go_simp
    rintro e w' ⟨rfl, rfl⟩
    go_wp2_with fail
    refine (sec21 _ m x _ g0 g1 ?_ ?_).mono ?_
    · go_simp
    · go_simp
    rintro e w' ⟨rfl, rfl⟩
    go_wp2_with fail
    refine (nsec13 _ n _ h0 h1 ?_).mono ?_
    · go_simp
    rintro e w' ⟨rfl, rfl⟩
    go_wp2_with fail
    refine (nsec13 _ m _ g0 g1 ?_).mono ?_
    · go_simp
    rintro e w' ⟨rfl, rfl⟩
    go_wp2_with fail
    go_ret
    exact ⟨by simp, ((Below.refl _ _).alloc (Nat.le_refl _) _).alloc (by simp) _⟩
  · have c2' : (x == y) = false := by simp [c2]
    go_enter Try.func22, Try.ntmps22
    go_wp2_with fail
    refine (sec21 _ n x _ h0 h1 ?_ ?_).mono ?_
    · go_simp
    · go_simp
    rintro e w' ⟨rfl, rfl⟩
    go_wp2_with fail
    refine (sec21 _ m y _ g0 g1 ?_ ?_).mono ?_
    · go_simp
    · go_simp
    rintro e w' ⟨rfl, rfl⟩
    go_wp2_with fail
    go_ret
    exact ⟨by simp [c2], ((Below.refl _ _).alloc (Nat.le_refl _) _).alloc (by simp) _⟩

theorem isZero (t : Int) (w : World) :
    Calls Try.prog 16 #[tm t] w fun e w' => e = .returned (.bool (decide (t = 0))) ∧ Below w.heap.size w w' := by
  have e : (t % 1000000000 == 0 && t / 1000000000 == 0) = decide (t = 0) := by
    rw [Bool.eq_iff_iff]; simp; omega
  rw [← e]
  exact isZero16 _ _ w
theorem before (t u : Int) (w : World) :
    Calls Try.prog 19 #[tm t, tm u] w fun e w' => e = .returned (.bool (decide (t < u))) ∧ Below w.heap.size w w' := by
  have e : (decide (t / 1000000000 < u / 1000000000) || (t / 1000000000 == u / 1000000000 && decide (t % 1000000000 < u % 1000000000))) = decide (t < u) := by
    rw [Bool.eq_iff_iff]; simp; omega
  rw [← e]
  exact before19_core _ _ _ _ w (by omega) (by omega) (by omega) (by omega)
theorem equal (t u : Int) (w : World) :
    Calls Try.prog 22 #[tm t, tm u] w fun e w' => e = .returned (.bool (decide (t = u))) ∧ Below w.heap.size w w' := by
  have e : (t / 1000000000 == u / 1000000000 && t % 1000000000 == u % 1000000000) = decide (t = u) := by
    rw [Bool.eq_iff_iff]; simp; omega
  rw [← e]
  exact equal22_core _ _ _ _ w (by omega) (by omega) (by omega) (by omega)

set_option maxHeartbeats 1000000 in
theorem sub11_core (n x m y u : Int) (w : World) (h0 : 0 ≤ n) (h1 : n < 1000000000) (g0 : 0 ≤ m) (g1 : m < 1000000000) (hx1 : -4500000000 ≤ x) (hx2 : x ≤ 4500000000) (hy1 : -4500000000 ≤ y) (hy2 : y ≤ 4500000000)
    (hu : u = y * 1000000000 + m) (hd1 : -4600000000000000000 ≤ (x - y) * 1000000000 + (n - m)) (hd2 : (x - y) * 1000000000 + (n - m) ≤ 4600000000000000000) :
    Calls Try.prog 11 #[tv n x, tv m y] w fun e w' => e = .returned (.int .i64 ((x - y) * 1000000000 + (n - m))) ∧ Below w.heap.size w w' := by
  have HA : Hid (∀ W : World, Calls Try.prog 9 #[tv m y, .int .i64 ((x - y) * 1000000000 + (n - m))] W fun e w' => e = .returned (tv n x) ∧ Below W.heap.size W w') := by
    intro W
    have e1 : u % 1000000000 = m := by omega
    have e2 : u / 1000000000 = y := by omega
    have e3 : (u + ((x - y) * 1000000000 + (n - m))) % 1000000000 = n := by omega
    have e4 : (u + ((x - y) * 1000000000 + (n - m))) / 1000000000 = x := by omega
    have := add9 u ((x - y) * 1000000000 + (n - m)) W (by omega) (by omega) hd1 hd2
    unfold tm at this
    rw [e1, e2, e3, e4] at this
    exact this
  clear hu
  obtain ⟨k, hk, k0, k1⟩ := and_two n m h0 h1 g0 g1
  have hk2 := and_top k k0 k1
  go_enter Try.func11, Try.ntmps11
  go_wp2_with fail
  refine (sec21 _ n x _ h0 h1 ?_ ?_).mono ?_
  · go_simp
  · go_simp
  rintro e w' ⟨rfl, rfl⟩
  go_wp2_with fail
  refine (sec21 _ m y _ g0 g1 ?_ ?_).mono ?_
  · go_simp
  · go_simp
  rintro e w' ⟨rfl, rfl⟩
  go_wp2_with fail
  refine (nsec13 _ n _ h0 h1 ?_).mono ?_
  · go_simp
  rintro e w' ⟨rfl, rfl⟩
  go_wp2_with fail
  refine (nsec13 _ m _ g0 g1 ?_).mono ?_
  · go_simp
  rintro e w' ⟨rfl, rfl⟩
  go_wp2_with fail
  go_region_with (first | (go_at_call 9; go_must (refine (HA.out _).mono ?_; rintro e w2 ⟨rfl, hb2⟩; obtain ⟨hc2, hf2⟩ := bcell hb2)) | (go_at_call 22; go_must (refine (equal22_core n x n x _ h0 h1 h0 h1).mono ?_; rintro e w3 ⟨rfl, hb3⟩)))
  all_goals
    go_wp2_with fail
    go_ret
    exact ⟨rfl, (((((Below.refl w.heap.size w).alloc (Nat.le_refl _) _).alloc (by simp) _).drew).trans (hb2.mono (by simp; omega))).trans (hb3.mono (by have := hb2.size; simp at this; omega))⟩

theorem sub (t u : Int) (w : World) (ht1 : -2000000000000000000 ≤ t) (ht2 : t ≤ 2000000000000000000) (hu1 : -2000000000000000000 ≤ u) (hu2 : u ≤ 2000000000000000000) :
    Calls Try.prog 11 #[tm t, tm u] w fun e w' => e = .returned (.int .i64 (t - u)) ∧ Below w.heap.size w w' := by
  have e : t - u = (t / 1000000000 - u / 1000000000) * 1000000000 + (t % 1000000000 - u % 1000000000) := by omega
  rw [e]
  exact sub11_core _ _ _ _ u w (by omega) (by omega) (by omega) (by omega) (by omega) (by omega) (by omega) (by omega) (by omega) (by omega) (by omega)
end Go.Proofs.Qxb6614268a
