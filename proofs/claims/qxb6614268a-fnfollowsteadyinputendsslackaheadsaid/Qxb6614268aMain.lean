import Derived.Test.Qxb6614268aRead
namespace Go.Proofs.Qxb6614268a
open Go.RowKit
set_option linter.unusedVariables false

theorem Inv.tl {B b : Nat} {I S D W Og K0 : Int} {w0 : World} {k : Nat} {X : World} (h : Inv B b I S D W Og K0 w0 k X) (hK : 1 ≤ K0) (hD : S < D) :
    Below B w0 X ∧ ∃ N v, TL X b I S (Og - (D - cl S D (el k K0))) (Og - (D - cl S D (el k K0))) W N (D - cl S D (el k K0)) v := by
  obtain ⟨h1, h2⟩ := h
  rcases h2 with ⟨rfl, hT⟩ | ⟨hk, c, cap, hT, ho, hc⟩
  · have e : cl S D (el ((0 : Nat) : Int) K0) = D := by
      rw [show el ((0 : Nat) : Int) K0 = 0 from (el_lo 0 K0 (by omega)).2]
      exact cl_zero S D hD
    rw [e, Int.sub_self, Int.sub_zero]
    exact ⟨h1, _, _, hT⟩
  · exact ⟨h1, _, _, hT⟩

set_option maxHeartbeats 2000000 in
set_option maxRecDepth 100000 in
theorem main (I S W D Og m : Int) (w : World) (a0 : 0 ≤ m) (a0' : m ≤ 4096)
    (a1 : 1 ≤ I) (a2 : I ≤ 68719476736) (a3 : 1 ≤ S) (a4 : S ≤ 1099511627776) (a5 : 1 ≤ W) (a6 : W ≤ 1099511627776) (a7 : S < D) (a8 : D ≤ 17592186044416) (a9 : D < Og) (a10 : Og ≤ 1152921504606846976) :
    Calls Try.prog 3 #[.int .i64 I, .int .i64 S, .int .i64 W, .int .i64 D, .int .i64 Og, .int .i64 m] w fun e w' => e = .returned (.bool true) ∧ Below w.heap.size w w' := by
  obtain ⟨M, rfl⟩ := Int.eq_ofNat_of_zero_le a0
  go_enter Try.func3, Try.ntmps3
  go_wp2_with fail
  refine (new4 I S Og Og W 0 _ (by omega) (by omega) (by omega) (by omega)).mono ?_
  rintro e w1 ⟨b, rfl, hb, hT, hbel⟩
  go_wp2_with fail
  have hK1 := ceil_pos W I a1 a5
  have hK2 := ceil_le W I a1 a5
  have hQ1 : 0 ≤ (D - 1) / S := Int.ediv_nonneg (by omega) (by omega)
  have hQ2 : (D - 1) / S ≤ D - 1 := Int.ediv_le_self _ (by omega)
  have HR : Hid (∀ (X : World) (k : Nat), Inv w.heap.size b I S D W Og ((W + I - 1) / I) w k X → k < 4096 → Calls Try.prog 5 #[.pointer (some ⟨b, 0, none⟩), .int .u64 k, .int .i64 (Og + k * I - D), .bool false] X fun e w' => e = .returned (.bool (decide ((W + I - 1) / I ≤ k) && decide (k - (W + I - 1) / I < (D - 1) / S))) ∧ Inv w.heap.size b I S D W Og ((W + I - 1) / I) w (k + 1) w') :=
    fun X k hi hk => readK w.heap.size b I S D W Og w X k hb hi hk a1 a2 a3 a4 a5 a6 a7 a8 a9 a10
  generalize (W + I - 1) / I = K0 at *
  generalize (D - 1) / S = Q at *
  have hI0 : Inv w.heap.size b I S D W Og K0 w 0 w1 := ⟨hbel, Or.inl ⟨rfl, hT⟩⟩
  clear hT hbel
  go_loopw [16] (fun kv w' => ∃ k : Nat, k ≤ M ∧ kv = .int .i64 k ∧ Inv w.heap.size b I S D W Og K0 w k w') (fun kv w' => M - (intOf kv).toNat)
  case atStart => exact ⟨0, Nat.zero_le _, rfl, hI0⟩
  case round =>
    obtain ⟨k, hk, rfl, hinv⟩ := hrel
    by_cases hlt : k < M
    · have hm1 : 0 ≤ (k : Int) * I := Int.mul_nonneg (by omega) (by omega)
      have hm2 : (k : Int) * I ≤ 281474976710656 := Int.le_trans (Int.mul_le_mul (show (k : Int) ≤ 4096 by omega) a2 (by omega) (by decide)) (by decide)
      by_cases hk1 : K0 ≤ (k : Int)
      · by_cases hk2 : (k : Int) - K0 < Q
        · have d1 : decide (K0 ≤ (k : Int)) = true := by simpa using hk1
          have d2 : decide ((k : Int) - K0 < Q) = true := by simpa using hk2
          go_wp2_with fail
          refine (HR.out _ k hinv (by omega)).mono ?_
          rintro e w2 ⟨rfl, hinv'⟩
          clear hinv hI0
          go_wp2_with fail
          go_roundw
          case rel => exact ⟨k + 1, by omega, by go_num, hinv'⟩
          case measure => simp [intOf]; omega
        · have d1 : decide (K0 ≤ (k : Int)) = true := by simpa using hk1
          have d2 : decide ((k : Int) - K0 < Q) = false := by simpa using hk2
          go_wp2_with fail
          refine (HR.out _ k hinv (by omega)).mono ?_
          rintro e w2 ⟨rfl, hinv'⟩
          clear hinv hI0
          go_wp2_with fail
          go_roundw
          case rel => exact ⟨k + 1, by omega, by go_num, hinv'⟩
          case measure => simp [intOf]; omega
      · have d1 : decide (K0 ≤ (k : Int)) = false := by simpa using hk1
        go_wp2_with fail
        refine (HR.out _ k hinv (by omega)).mono ?_
        rintro e w2 ⟨rfl, hinv'⟩
        clear hinv hI0
        go_wp2_with fail
        go_roundw
        case rel => exact ⟨k + 1, by omega, by go_num, hinv'⟩
        case measure => simp [intOf]; omega
    · obtain rfl : k = M := by omega
      obtain ⟨hbel, N, v, hT⟩ := hinv.tl hK1 a7
      have hcb := cl_bd S D (el (k : Int) K0) a3 a7 (el_nonneg _ _)
      clear HR hI0 hinv
      by_cases hkk : K0 < (k : Int)
      · have he : el (k : Int) K0 = (k : Int) - K0 := by unfold el; rw [if_pos hkk]
        have hx1 : 0 ≤ S * ((k : Int) - K0) := Int.mul_nonneg (by omega) (by omega)
        have hx2 : S * ((k : Int) - K0) ≤ 4503599627370496 := Int.le_trans (Int.mul_le_mul a4 (show (k : Int) - K0 ≤ 4096 by omega) (by omega) (by decide)) (by decide)
        rw [he] at hT hcb
        by_cases hxs : D - S * ((k : Int) - K0) < S
        · have hc : cl S D ((k : Int) - K0) = S := by unfold cl; rw [if_pos hxs]
          rw [hc] at hT hcb
          go_wp2_with fail
          refine (origin6 b I S _ _ W N _ v _ hT (by omega) (by omega)).mono ?_
          rintro e w2 ⟨rfl, hb2⟩
          go_wp2_with fail
          refine (first7 b I S _ _ W N _ v _ (hT.later hb2) (by omega) (by omega)).mono ?_
          rintro e w3 ⟨rfl, hb3⟩
          go_wp2_with fail
          refine (followed8 b I S _ _ W N _ v _ ((hT.later hb2).later hb3)).mono ?_
          rintro e w4 ⟨rfl, rfl⟩
          go_wp2_with fail
          go_ret
          exact ⟨by simp, (hbel.trans (hb2.mono hbel.size)).trans (hb3.mono (by have := hbel.size; have := hb2.size; omega))⟩
        · have hc : cl S D ((k : Int) - K0) = D - S * ((k : Int) - K0) := by unfold cl; rw [if_neg hxs]
          rw [hc] at hT hcb
          go_wp2_with fail
          refine (origin6 b I S _ _ W N _ v _ hT (by omega) (by omega)).mono ?_
          rintro e w2 ⟨rfl, hb2⟩
          go_wp2_with fail
          refine (first7 b I S _ _ W N _ v _ (hT.later hb2) (by omega) (by omega)).mono ?_
          rintro e w3 ⟨rfl, hb3⟩
          go_wp2_with fail
          refine (followed8 b I S _ _ W N _ v _ ((hT.later hb2).later hb3)).mono ?_
          rintro e w4 ⟨rfl, rfl⟩
          go_wp2_with fail
          go_ret
          exact ⟨by simp, (hbel.trans (hb2.mono hbel.size)).trans (hb3.mono (by have := hbel.size; have := hb2.size; omega))⟩
      · have he : el (k : Int) K0 = 0 := by unfold el; rw [if_neg hkk]
        rw [he, cl_zero S D a7] at hT hcb
        go_wp2_with fail
        refine (origin6 b I S _ _ W N _ v _ hT (by omega) (by omega)).mono ?_
        rintro e w2 ⟨rfl, hb2⟩
        go_wp2_with fail
        refine (first7 b I S _ _ W N _ v _ (hT.later hb2) (by omega) (by omega)).mono ?_
        rintro e w3 ⟨rfl, hb3⟩
        go_wp2_with fail
        refine (followed8 b I S _ _ W N _ v _ ((hT.later hb2).later hb3)).mono ?_
        rintro e w4 ⟨rfl, rfl⟩
        go_wp2_with fail
        go_ret
        exact ⟨by simp, (hbel.trans (hb2.mono hbel.size)).trans (hb3.mono (by have := hbel.size; have := hb2.size; omega))⟩

set_option maxHeartbeats 2000000 in
set_option maxRecDepth 100000 in
theorem whole (I S W D Og m : Int) (w : World) :
    Calls Try.prog 3 #[.int .i64 I, .int .i64 S, .int .i64 W, .int .i64 D, .int .i64 Og, .int .i64 m] w fun e w' => e = .returned (.bool true) ∧ Below w.heap.size w w' := by
  by_cases c1 : m < 0
  · go_enter Try.func3, Try.ntmps3
    go_wp2_with fail
    go_ret
    exact ⟨rfl, Below.refl _ _⟩
  by_cases c2 : 4096 < m
  · go_enter Try.func3, Try.ntmps3
    go_wp2_with fail
    go_ret
    exact ⟨rfl, Below.refl _ _⟩
  by_cases c3 : I < 1
  · go_enter Try.func3, Try.ntmps3
    go_wp2_with fail
    go_ret
    exact ⟨rfl, Below.refl _ _⟩
  by_cases c4 : 68719476736 < I
  · go_enter Try.func3, Try.ntmps3
    go_wp2_with fail
    go_ret
    exact ⟨rfl, Below.refl _ _⟩
  by_cases c5 : S < 1
  · go_enter Try.func3, Try.ntmps3
    go_wp2_with fail
    go_ret
    exact ⟨rfl, Below.refl _ _⟩
  by_cases c6 : 1099511627776 < S
  · go_enter Try.func3, Try.ntmps3
    go_wp2_with fail
    go_ret
    exact ⟨rfl, Below.refl _ _⟩
  by_cases c7 : W < 1
  · go_enter Try.func3, Try.ntmps3
    go_wp2_with fail
    go_ret
    exact ⟨rfl, Below.refl _ _⟩
  by_cases c8 : 1099511627776 < W
  · go_enter Try.func3, Try.ntmps3
    go_wp2_with fail
    go_ret
    exact ⟨rfl, Below.refl _ _⟩
  by_cases c9 : D ≤ S
  · go_enter Try.func3, Try.ntmps3
    go_wp2_with fail
    go_ret
    exact ⟨rfl, Below.refl _ _⟩
  by_cases c10 : 17592186044416 < D
  · go_enter Try.func3, Try.ntmps3
    go_wp2_with fail
    go_ret
    exact ⟨rfl, Below.refl _ _⟩
  by_cases c11 : Og ≤ D
  · go_enter Try.func3, Try.ntmps3
    go_wp2_with fail
    go_ret
    exact ⟨rfl, Below.refl _ _⟩
  by_cases c12 : 1152921504606846976 < Og
  · go_enter Try.func3, Try.ntmps3
    go_wp2_with fail
    go_ret
    exact ⟨rfl, Below.refl _ _⟩
  exact main I S W D Og m w (by omega) (by omega) (by omega) (by omega) (by omega) (by omega) (by omega) (by omega) (by omega) (by omega) (by omega) (by omega)
end Go.Proofs.Qxb6614268a
