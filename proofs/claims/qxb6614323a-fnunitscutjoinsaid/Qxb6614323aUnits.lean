import Derived.Test.Qxb6614323aKit
namespace Go.Proofs.Qxb6614323a
open Go.RowKit
set_option linter.unusedVariables false

theorem Try.info22 : (Try.prog.info? 22).map (fun i => (i.zero, i.size, i.bytes)) = some (some (.slice none 0 0), 1, 24) := by kernel_rfl

def fresh (n : Nat) : Array Value := madeCells #[.slice none 0 0] n
theorem fresh_size (n : Nat) : (fresh n).size = n := size_madeCells _ _

theorem make27 (n : Nat) (hn : n ≤ 65536) (W : World) :
    (Instr.makeSlice 27 (.int .i64 (n : Int)) (.int .i64 (n : Int))).run Try.prog W = .ok (.slice (some ⟨W.heap.size, 0, none⟩) n n) (W.alloc (.cells (fresh n) 22)) := by
  obtain ⟨i0, hi0, hz0, hz1, hz2⟩ := info_parts Try.info22
  have h := run_make (P := Try.prog) W 27 22 i0 _ Try.underlying27 hi0 hz0 .i64 .i64 (n : Int) (n : Int) (by omega) (Int.le_refl _) (by rw [hz2]; omega) (by omega)
  rw [hz1, Int.toNat_natCast, Nat.mul_one] at h
  exact h

structure UI (w0 w : World) (g n k : Nat) (xs : Nat → ByteArray) : Prop where
  bel : Below w0.heap.size w0 w
  gw : w0.heap.size ≤ g
  lt : g < w.heap.size
  there : ∀ j, j < n → (w.cell? ⟨g, j, none⟩).isSome = true
  fz : ∀ j, w.frozen? ⟨g, j, none⟩ = false
  done : ∀ j, j < k → ∃ h, h ≠ g ∧ w.cell? ⟨g, j, none⟩ = some (.slice (some ⟨h, 0, none⟩) 1 1) ∧ w.cell? ⟨h, 0, none⟩ = some (.string (xs j))

theorem UI.start (w : World) (n : Nat) (xs : Nat → ByteArray) : UI w (w.alloc (.cells (fresh n) 22)) w.heap.size n 0 xs :=
  ⟨(Below.refl _ _).alloc (Nat.le_refl _) _, Nat.le_refl _, by simp, fun j hj => by rw [World.cell?_alloc_at _ _ _ _ rfl]; simp [fresh_size, hj], fun j => World.frozen?_alloc_at _ _ _ _ rfl, fun j hj => absurd hj (Nat.not_lt_zero _)⟩

theorem UI.step {w0 w : World} {g n k : Nat} {xs : Nat → ByteArray} (h : UI w0 w g n k xs) (hk : k < n) :
    UI w0 ((w.setCell ⟨g, k, none⟩ (.slice (some ⟨w.heap.size, 0, none⟩) 1 1)).alloc (.cells #[.string (xs k)] 9)) g n (k + 1) xs := by
  have hz : (w.setCell ⟨g, k, none⟩ (.slice (some ⟨w.heap.size, 0, none⟩) 1 1)).heap.size = w.heap.size := by simp [World.setCell]
  have hlt := h.lt
  obtain ⟨u, hu⟩ := Option.isSome_iff_exists.1 (h.there k hk)
  have e1 : ∀ (b j : Nat), b < w.heap.size → ((w.setCell ⟨g, k, none⟩ (.slice (some ⟨w.heap.size, 0, none⟩) 1 1)).alloc (.cells #[.string (xs k)] 9)).cell? ⟨b, j, none⟩ = (w.setCell ⟨g, k, none⟩ (.slice (some ⟨w.heap.size, 0, none⟩) 1 1)).cell? ⟨b, j, none⟩ :=
    fun b j hb => World.cell?_alloc_past _ _ _ (by rw [hz]; exact hb)
  have e2 : ∀ (b j : Nat), (b ≠ g ∨ j ≠ k) → (w.setCell ⟨g, k, none⟩ (.slice (some ⟨w.heap.size, 0, none⟩) 1 1)).cell? ⟨b, j, none⟩ = w.cell? ⟨b, j, none⟩ :=
    fun b j hne => World.cell?_setCell_other _ _ _ _ (fun e => by injection e with e1 e2 _; omega)
  have e3 : (w.setCell ⟨g, k, none⟩ (.slice (some ⟨w.heap.size, 0, none⟩) 1 1)).cell? ⟨g, k, none⟩ = some (.slice (some ⟨w.heap.size, 0, none⟩) 1 1) := World.cell?_setCell_same _ _ _ hu
  refine ⟨(h.bel.setCell h.gw _).alloc (by rw [hz]; exact h.bel.size) _, h.gw, by simp [hz]; omega, fun j hj => ?_, fun j => ?_, fun j hj => ?_⟩
  · rw [e1 g j hlt]
    by_cases e : j = k
    · subst e; rw [e3]; rfl
    · rw [e2 g j (Or.inr e)]; exact h.there j hj
  · rw [frozen?_alloc_cells]
    simpa [go_sem] using h.fz j
  · by_cases e : j = k
    · subst e
      refine ⟨w.heap.size, by omega, (e1 g j hlt).trans e3, ?_⟩
      rw [World.cell?_alloc_at _ _ _ _ hz.symm]
      rfl
    · obtain ⟨b, hb, q1, q2⟩ := h.done j (by omega)
      exact ⟨b, hb, (e1 g j hlt).trans ((e2 g j (Or.inr e)).trans q1), (e1 b 0 (World.block_lt_of_cell? _ _ q2)).trans ((e2 b 0 (Or.inl hb)).trans q2)⟩

def UU (w : World) (g n : Nat) (xs : Nat → ByteArray) : Prop := ∀ i, i < n → ∃ h, w.cell? ⟨g, i, none⟩ = some (.slice (some ⟨h, 0, none⟩) 1 1) ∧ w.cell? ⟨h, 0, none⟩ = some (.string (xs i))
theorem UU.later {w w1 : World} {g n : Nat} {xs : Nat → ByteArray} (h : UU w g n xs) (hb : Below w.heap.size w w1) : UU w1 g n xs := fun i hi => by
  obtain ⟨b, q1, q2⟩ := h i hi
  exact ⟨b, cell_later hb q1, cell_later hb q2⟩
theorem UI.uu {w0 w : World} {g n : Nat} {xs : Nat → ByteArray} (h : UI w0 w g n n xs) : UU w g n xs := fun i hi => by
  obtain ⟨b, _, q1, q2⟩ := h.done i hi
  exact ⟨b, q1, q2⟩

set_option maxHeartbeats 1000000 in
theorem units7 (p : Value) (nb no n cap : Nat) (xs : Nat → ByteArray) (w : World) (hn : n ≤ 65536) (hc : ∀ i, i < n → w.cell? ⟨nb, no + i, none⟩ = some (.string (xs i))) :
    Calls Try.prog 7 #[p, .slice (some ⟨nb, no, none⟩) n cap] w fun e w' => ∃ g, e = .returned (.slice (some ⟨g, 0, none⟩) n n) ∧ UU w' g n xs ∧ Below w.heap.size w w' := by
  have hmk := make27 n hn
  go_enter Try.func7, Try.ntmps7
  go_wp2
  go_loopw [13] (fun i w' => ∃ k : Nat, k ≤ n ∧ i = .int .i64 k ∧ UI w w' w.heap.size n k xs) (fun i _ => n - (intOf i).toNat)
  case atStart => exact ⟨0, Nat.zero_le _, rfl, UI.start w n xs⟩
  case round =>
    obtain ⟨k, hk, rfl, hu⟩ := hrel
    by_cases hlt : k < n
    · have hcell := cell_later hu.bel (hc k hlt)
      have fz := hu.fz
      obtain ⟨v0, th⟩ := Option.isSome_iff_exists.1 (hu.there k hlt)
      have glt := hu.lt
      clear hmk
      go_wp2
      go_roundw
      case rel => exact ⟨k + 1, by omega, by go_num, hu.step hlt⟩
      case measure => simp [intOf]; omega
    · obtain rfl : k = n := by omega
      go_wp2
      go_ret
      exact ⟨_, rfl, hu.uu, hu.bel⟩

set_option maxHeartbeats 1000000 in
theorem units7z (p : Value) (a : Option Addr) (cap : Nat) (xs : Nat → ByteArray) (w : World) :
    Calls Try.prog 7 #[p, .slice a 0 cap] w fun e w' => ∃ g, e = .returned (.slice (some ⟨g, 0, none⟩) 0 0) ∧ UU w' g 0 xs ∧ Below w.heap.size w w' := by
  have hmk := make27 0 (by omega)
  simp only [Int.natCast_zero] at hmk
  go_enter Try.func7, Try.ntmps7
  go_wp2
  refine wp_loop_rounds 1 ?_
  rw [rounds_succ]
  go_wp2
  go_ret
  exact ⟨_, rfl, fun i hi => absurd hi (Nat.not_lt_zero _), (Below.refl _ _).alloc (Nat.le_refl _) _⟩
end Go.Proofs.Qxb6614323a
