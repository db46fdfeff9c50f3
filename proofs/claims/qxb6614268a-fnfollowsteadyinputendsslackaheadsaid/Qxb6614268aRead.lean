import Derived.Test.Qxb6614268aShims
import Derived.Test.Qxb6614268aPlain
import Derived.Test.Qxb6614268aFollowA
import Derived.Test.Qxb6614268aFollowI
import Derived.Test.Qxb6614268aFollowII
import Derived.Test.Qxb6614268aFollowIII
namespace Go.Proofs.Qxb6614268a
open Go.RowKit
set_option linter.unusedVariables false

abbrev arrCells (i a : Int) : List Value := [.int .u64 i, .int .u64 (a % 1000000000), .int .i64 (a / 1000000000), .pointer none]

/-- What holds when k reads have been taken: nothing moved below B; the timeline stands at the lead that k reads leave. -/
def Inv (B b : Nat) (I S D W Og K0 : Int) (w0 : World) (k : Nat) (X : World) : Prop :=
  Below B w0 X ∧ ((k = 0 ∧ TL X b I S Og Og W 0 0 (.slice none 0 0)) ∨
   (0 < k ∧ ∃ c cap, TL X b I S (Og - (D - cl S D (el k K0))) (Og - (D - cl S D (el k K0))) W (Og - D) (D - cl S D (el k K0)) (.slice (some ⟨c, 0, none⟩) 1 cap) ∧
      X.ownsRow B 44 4 (.slice (some ⟨c, 0, none⟩) 1 cap) 1 (arrCells (k - 1) (Og + (k - 1) * I - D)) ∧ c ≠ b))

theorem Inv.later {B b : Nat} {I S D W Og K0 : Int} {w0 : World} {k : Nat} {X Y : World} (h : Inv B b I S D W Og K0 w0 k X) (hB : B ≤ b) (hb : Below X.heap.size X Y) : Inv B b I S D W Og K0 w0 k Y := by
  obtain ⟨h1, h2⟩ := h
  rcases h2 with ⟨hk, hT⟩ | ⟨hk, c, cap, hT, ho, hc⟩
  · exact ⟨h1.trans (hb.mono (by have := hT.lt; omega)), Or.inl ⟨hk, hT.later hb⟩⟩
  · exact ⟨h1.trans (hb.mono (by have := hT.lt; omega)), Or.inr ⟨hk, c, cap, hT.later hb, own_later ho hb, hc⟩⟩

def want (S D K0 : Int) (k : Int) : Bool := decide (K0 ≤ k) && decide (k - K0 < (D - 1) / S)

theorem readK (B b : Nat) (I S D W Og : Int) (w0 X : World) (k : Nat) (hB : B ≤ b)
    (hi : Inv B b I S D W Og ((W + I - 1) / I) w0 k X) (hk : k < 4096)
    (a1 : 1 ≤ I) (a2 : I ≤ 68719476736) (a3 : 1 ≤ S) (a4 : S ≤ 1099511627776) (a5 : 1 ≤ W) (a6 : W ≤ 1099511627776) (a7 : S < D) (a8 : D ≤ 17592186044416) (a9 : D < Og) (a10 : Og ≤ 1152921504606846976) :
    Calls Try.prog 5 #[.pointer (some ⟨b, 0, none⟩), .int .u64 k, .int .i64 (Og + k * I - D), .bool false] X fun e w' => e = .returned (.bool (want S D ((W + I - 1) / I) k)) ∧ Inv B b I S D W Og ((W + I - 1) / I) w0 (k + 1) w' := by
  have hm1 : 0 ≤ (k : Int) * I := Int.mul_nonneg (by omega) (by omega)
  have hm2 : (k : Int) * I ≤ 4096 * 68719476736 := Int.mul_le_mul (by omega) a2 (by omega) (by decide)
  refine zzfollow b k _ _ _ X (by omega) (by omega) ?_
  intro Y hY
  have hi' := hi.later hB hY
  clear hi hY
  have hK := ceil_pos W I a1 a5
  have hcl := ceil_lt W I k a1
  generalize (W + I - 1) / I = K0 at *
  obtain ⟨hbel, h2⟩ := hi'
  have ec : ((k + 1 : Nat) : Int) = (k : Int) + 1 := by omega
  rcases h2 with ⟨rfl, hT⟩ | ⟨hk0, c, cap, hT, ho, hc⟩
  · have hw : want S D K0 ((0 : Nat) : Int) = false := by unfold want; simp; omega
    rw [hw]
    have he := el_lo 0 K0 (by omega)
    refine (follow_first B b I S Og W 0 ((0 : Nat) : Int) _ D Y hT hB (by show _ = _; omega) (by omega) (by omega) (by omega) a2 (by omega) (by omega) (by omega) (by omega) a5 a6 a3 a4 (by omega) a8).mono ?_
    rintro e w' ⟨rfl, hb, gg, cap, hT', ho', hne⟩
    refine ⟨rfl, hbel.trans hb, Or.inr ⟨by omega, gg, cap, ?_, ?_, hne⟩⟩
    · have e1 : Og + ((0 : Nat) : Int) * I - D = Og - D := by simp
      have e2 : cl S D (el ((0 + 1 : Nat) : Int) K0) = D := by
        rw [show ((0 + 1 : Nat) : Int) = 0 + 1 from rfl, he.1, he.2]
        exact cl_zero S D a7
      rw [e1] at hT'
      rw [e2, Int.sub_self, Int.sub_zero]
      exact hT'
    · have e3 : ((0 + 1 : Nat) : Int) - 1 = ((0 : Nat) : Int) := rfl
      rw [e3]
      exact ho'
  · have hj := el_nonneg (k : Int) K0
    have hcb := cl_bd S D (el (k : Int) K0) a3 a7 hj
    have hst := step S D (el (k : Int) K0) _ a3 a7 hj rfl
    have e3 : ((k + 1 : Nat) : Int) - 1 = (k : Int) := by omega
    have em : ((k : Int) - 1) * I = k * I - I := by rw [Int.sub_mul, Int.one_mul]
    have hm3 : 0 ≤ ((k : Int) - 1) * I := Int.mul_nonneg (by omega) (by omega)
    generalize hL : cl S D (el (k : Int) K0) = L at *
    generalize hbd : (if S < L - S then S else L - S) = bd at *
    have key : ∀ (r : Bool) (O' G' : Int), want S D K0 k = r → O' = Og - (D - cl S D (el ((k : Int) + 1) K0)) → G' = D - cl S D (el ((k : Int) + 1) K0) →
        (Calls Try.prog 10 #[.pointer (some ⟨b, 0, none⟩), .int .u64 k, tm (Og + k * I - D), .bool false] Y fun e w' => e = .returned (.bool r) ∧ Below B Y w' ∧ ∃ gg cap, TL w' b I S O' O' W (Og - D) G' (.slice (some ⟨gg, 0, none⟩) 1 cap) ∧ w'.ownsRow B 44 4 (.slice (some ⟨gg, 0, none⟩) 1 cap) 1 [.int .u64 k, .int .u64 ((Og + k * I - D) % 1000000000), .int .i64 ((Og + k * I - D) / 1000000000), .pointer none] ∧ gg ≠ b) →
        Calls Try.prog 10 #[.pointer (some ⟨b, 0, none⟩), .int .u64 k, tm (Og + k * I - D), .bool false] Y fun e w' => e = .returned (.bool (want S D K0 k)) ∧ Inv B b I S D W Og K0 w0 (k + 1) w' := by
      intro r O' G' hr hO hG hc
      refine hc.mono ?_
      rintro e w' ⟨rfl, hb, gg, cap, hT', ho', hne⟩
      rw [hr]
      refine ⟨rfl, hbel.trans hb, Or.inr ⟨by omega, gg, cap, ?_, ?_, hne⟩⟩
      · rw [ec, ← hO, ← hG]; exact hT'
      · rw [e3]; exact ho'
    have HD : Hid (Og + (k : Int) * I - D - (Og - D) = (k : Int) * I) := by show _ = _; omega
    have HL : Hid (Og - (D - L) + (k : Int) * I - (Og + (k : Int) * I - D) = L) := by show _ = _; omega
    have HL0 : Hid (Og - (D - L) + ((k : Int) - 1) * I - (Og + ((k : Int) - 1) * I - D) = L) := by show _ = _; omega
    rcases Int.lt_or_le ((k : Int) * I) W with hlt | hge
    · have hkK := hcl.1 hlt
      have he := el_lo (k : Int) K0 hkK
      refine key false _ _ ?_ ?_ ?_ (follow_i B b c cap I S (Og - (D - L)) W (Og - D) (D - L) k _ L ((k : Int) - 1) (Og + ((k : Int) - 1) * I - D) bd Y hT ho hc hB HL HL0 hbd (by omega) (by omega) (by omega) a2 (by omega) (by omega) (by omega) (by omega) a5 a6 a3 a4 (by omega) (by omega) (by omega) (by omega) (by omega) (by omega) (by omega) (by omega) (by omega) (by omega) ((k : Int) * I) HD hlt)
      · unfold want; simp; omega
      · rw [he.1, hL]
      · rw [he.1, hL]
    · have hkK : ¬ (k : Int) < K0 := fun h => by have := hcl.2 h; omega
      have he := el_hi (k : Int) K0 (by omega)
      rcases Int.lt_or_le 0 bd with hpos | hneg
      · have h3 := hst.2 hpos
        refine key true _ _ ?_ ?_ ?_ (follow_iii B b c cap I S (Og - (D - L)) W (Og - D) (D - L) k _ L ((k : Int) - 1) (Og + ((k : Int) - 1) * I - D) bd Y hT ho hc hB HL HL0 hbd (by omega) (by omega) (by omega) a2 (by omega) (by omega) (by omega) (by omega) a5 a6 a3 a4 (by omega) (by omega) (by omega) (by omega) (by omega) (by omega) (by omega) (by omega) (by omega) (by omega) ((k : Int) * I) HD hge hpos)
        · unfold want; simp; omega
        · rw [he.2, h3.2]; omega
        · rw [he.2, h3.2]; omega
      · have h3 := hst.1 hneg
        refine key false _ _ ?_ ?_ ?_ (follow_ii B b c cap I S (Og - (D - L)) W (Og - D) (D - L) k _ L ((k : Int) - 1) (Og + ((k : Int) - 1) * I - D) bd Y hT ho hc hB HL HL0 hbd (by omega) (by omega) (by omega) a2 (by omega) (by omega) (by omega) (by omega) a5 a6 a3 a4 (by omega) (by omega) (by omega) (by omega) (by omega) (by omega) (by omega) (by omega) (by omega) (by omega) ((k : Int) * I) HD hge hneg)
        · unfold want; simp; omega
        · rw [he.2, h3.2]
        · rw [he.2, h3.2]
end Go.Proofs.Qxb6614268a
