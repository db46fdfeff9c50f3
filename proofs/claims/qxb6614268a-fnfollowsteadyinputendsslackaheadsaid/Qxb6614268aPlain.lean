namespace Go.Proofs.Qxb6614268a
set_option linter.unusedVariables false

def cl (S D j : Int) : Int := if D - S * j < S then S else D - S * j
def el (k K0 : Int) : Int := if K0 < k then k - K0 else 0

theorem cl_zero (S D : Int) (h : S < D) : cl S D 0 = D := by
  unfold cl
  rw [Int.mul_zero]
  split <;> omega
theorem cl_bd (S D j : Int) (hS : 1 ≤ S) (hD : S < D) (hj : 0 ≤ j) : S ≤ cl S D j ∧ cl S D j ≤ D := by
  have h : 0 ≤ S * j := Int.mul_nonneg (by omega) hj
  unfold cl
  split <;> omega
theorem el_nonneg (k K0 : Int) : 0 ≤ el k K0 := by unfold el; split <;> omega
theorem el_lo (k K0 : Int) (h : k < K0) : el (k + 1) K0 = el k K0 ∧ el k K0 = 0 := by
  unfold el; constructor
  · rw [if_neg (by omega), if_neg (by omega)]
  · rw [if_neg (by omega)]
theorem el_hi (k K0 : Int) (h : K0 ≤ k) : el k K0 = k - K0 ∧ el (k + 1) K0 = el k K0 + 1 := by
  unfold el; constructor
  · split <;> omega
  · rw [if_pos (by omega)]; split <;> omega

theorem ceil_lt (W I k : Int) (hI : 1 ≤ I) : k * I < W ↔ k < (W + I - 1) / I := by
  have h1 := Int.mul_ediv_add_emod (W + I - 1) I
  have h2 := Int.emod_nonneg (W + I - 1) (b := I) (by omega)
  have h3 := Int.emod_lt_of_pos (W + I - 1) (b := I) (by omega)
  generalize (W + I - 1) / I = q at *
  generalize (W + I - 1) % I = r at *
  constructor
  · intro h
    rcases Int.lt_or_le k q with hk | hk
    · exact hk
    · have := Int.mul_le_mul_of_nonneg_right hk (show 0 ≤ I by omega)
      rw [Int.mul_comm q I] at this
      omega
  · intro h
    have := Int.mul_le_mul_of_nonneg_right (show k + 1 ≤ q by omega) (show 0 ≤ I by omega)
    rw [Int.mul_comm q I, Int.add_mul] at this
    omega
theorem ceil_pos (W I : Int) (hI : 1 ≤ I) (hW : 1 ≤ W) : 1 ≤ (W + I - 1) / I := by
  have := (ceil_lt W I 0 hI).1 (by omega)
  omega
theorem ceil_le (W I : Int) (hI : 1 ≤ I) (hW : 1 ≤ W) : (W + I - 1) / I ≤ W := by
  rcases Int.lt_or_le W ((W + I - 1) / I) with h | h
  · have h2 := (ceil_lt W I W hI).2 h
    have := Int.mul_le_mul_of_nonneg_left (show 1 ≤ I by omega) (show 0 ≤ W by omega)
    omega
  · exact h

theorem step (S D j bd : Int) (hS : 1 ≤ S) (hD : S < D) (hj : 0 ≤ j) (hb : (if S < cl S D j - S then S else cl S D j - S) = bd) :
    (bd ≤ 0 → ¬ j < (D - 1) / S ∧ cl S D (j + 1) = cl S D j) ∧ (0 < bd → j < (D - 1) / S ∧ cl S D (j + 1) = cl S D j - bd) := by
  have h1 := Int.mul_ediv_add_emod (D - 1) S
  have h2 := Int.emod_nonneg (D - 1) (b := S) (by omega)
  have h3 := Int.emod_lt_of_pos (D - 1) (b := S) (by omega)
  generalize (D - 1) / S = q at *
  generalize (D - 1) % S = r at *
  have e1 : S * (j + 1) = S * j + S := by rw [Int.mul_add, Int.mul_one]
  have lo : j < q → S * j + S ≤ S * q := fun h => by
    have := Int.mul_le_mul_of_nonneg_left (show j + 1 ≤ q by omega) (show 0 ≤ S by omega)
    omega
  have hi : ¬ j < q → S * q ≤ S * j := fun h => Int.mul_le_mul_of_nonneg_left (show q ≤ j by omega) (show 0 ≤ S by omega)
  unfold cl at *
  rw [e1]
  generalize S * j = x at *
  generalize S * q = y at *
  by_cases hjq : j < q
  · have := lo hjq
    constructor
    · intro hb0
      exfalso
      split at hb <;> split at hb <;> omega
    · intro hb0
      refine ⟨hjq, ?_⟩
      split at hb <;> split at hb <;> split <;> omega
  · have := hi hjq
    constructor
    · intro hb0
      refine ⟨hjq, ?_⟩
      split at hb <;> split at hb <;> split <;> omega
    · intro hb0
      exfalso
      split at hb <;> split at hb <;> omega
end Go.Proofs.Qxb6614268a
