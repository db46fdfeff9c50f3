import Derived.Test.Qxb6614268aLead
import Derived.Deep.RegionHeld3
import Derived.Deep.AppendLies
import Derived.Deep.RegionLaw
import Derived.LoopN
import Derived.Deep.DeepCutAuto
namespace Go.Proofs.Qxb6614268a
open Go.RowKit
set_option linter.unusedVariables false

structure TL (w : World) (b : Nat) (I S F O W N G : Int) (v : Value) : Prop where
  cI : w.cell? ⟨b, 0, none⟩ = some (.int .i64 I)
  cS : w.cell? ⟨b, 1, none⟩ = some (.int .i64 S)
  f0 : w.cell? ⟨b, 2, none⟩ = some (.int .u64 (F % 1000000000))
  f1 : w.cell? ⟨b, 3, none⟩ = some (.int .i64 (F / 1000000000))
  f2 : w.cell? ⟨b, 4, none⟩ = some (.pointer none)
  o0 : w.cell? ⟨b, 5, none⟩ = some (.int .u64 (O % 1000000000))
  o1 : w.cell? ⟨b, 6, none⟩ = some (.int .i64 (O / 1000000000))
  o2 : w.cell? ⟨b, 7, none⟩ = some (.pointer none)
  cW : w.cell? ⟨b, 11, none⟩ = some (.int .i64 W)
  n0 : w.cell? ⟨b, 12, none⟩ = some (.int .u64 (N % 1000000000))
  n1 : w.cell? ⟨b, 13, none⟩ = some (.int .i64 (N / 1000000000))
  n2 : w.cell? ⟨b, 14, none⟩ = some (.pointer none)
  cv : w.cell? ⟨b, 15, none⟩ = some v
  cG : w.cell? ⟨b, 16, none⟩ = some (.int .i64 G)
  fz : ∀ i, w.frozen? ⟨b, i, none⟩ = false

theorem TL.lt {w : World} {b : Nat} {I S F O W N G : Int} {v : Value} (h : TL w b I S F O W N G v) : b < w.heap.size := World.block_lt_of_cell? w _ h.cI
theorem TL.later {w w1 : World} {b : Nat} {I S F O W N G : Int} {v : Value} (h : TL w b I S F O W N G v) (hb : Below w.heap.size w w1) : TL w1 b I S F O W N G v :=
  ⟨cell_later hb h.cI, cell_later hb h.cS, cell_later hb h.f0, cell_later hb h.f1, cell_later hb h.f2, cell_later hb h.o0, cell_later hb h.o1, cell_later hb h.o2, cell_later hb h.cW, cell_later hb h.n0, cell_later hb h.n1, cell_later hb h.n2, cell_later hb h.cv, cell_later hb h.cG, fun i => (hb.frozen (p := ⟨b, i, none⟩) h.lt).trans (h.fz i)⟩

theorem later {W w1 : World} {o : Obj} (hb : Below (W.alloc o).heap.size (W.alloc o) w1) : Below W.heap.size W w1 :=
  ((Below.refl _ _).alloc (Nat.le_refl _) o).trans (hb.mono (by simp))
theorem laterCells {W w1 : World} {C : Array Value} {T : TypeId} (hb : Below (W.alloc (.cells C T)).heap.size (W.alloc (.cells C T)) w1) :
    (∀ i, w1.cell? ⟨W.heap.size, i, none⟩ = C[i]?) ∧ (∀ i, w1.frozen? ⟨W.heap.size, i, none⟩ = false) ∧ W.heap.size < w1.heap.size := by
  refine ⟨fun i => ?_, fun i => ?_, ?_⟩
  · rw [hb.cell (p := ⟨W.heap.size, i, none⟩) (by simp), World.cell?_alloc_at _ _ _ _ rfl]
  · rw [hb.frozen (p := ⟨W.heap.size, i, none⟩) (by simp), World.frozen?_alloc_at _ _ _ _ rfl]
  · have := hb.size; simp at this; omega
theorem set3 (w : World) (b k : Nat) (u0 u1 u2 v0 v1 v2 : Value) (h0 : w.cell? ⟨b, k, none⟩ = some u0) (h1 : w.cell? ⟨b, k + 1, none⟩ = some u1) (h2 : w.cell? ⟨b, k + 2, none⟩ = some u2) :
    (((w.setCell ⟨b, k, none⟩ v0).setCell ⟨b, k + 1, none⟩ v1).setCell ⟨b, k + 2, none⟩ v2).cell? ⟨b, k, none⟩ = some v0 ∧
    (((w.setCell ⟨b, k, none⟩ v0).setCell ⟨b, k + 1, none⟩ v1).setCell ⟨b, k + 2, none⟩ v2).cell? ⟨b, k + 1, none⟩ = some v1 ∧
    (((w.setCell ⟨b, k, none⟩ v0).setCell ⟨b, k + 1, none⟩ v1).setCell ⟨b, k + 2, none⟩ v2).cell? ⟨b, k + 2, none⟩ = some v2 ∧
    (∀ c j, (c ≠ b ∨ j < k ∨ k + 2 < j) → (((w.setCell ⟨b, k, none⟩ v0).setCell ⟨b, k + 1, none⟩ v1).setCell ⟨b, k + 2, none⟩ v2).cell? ⟨c, j, none⟩ = w.cell? ⟨c, j, none⟩) ∧
    (∀ x, (((w.setCell ⟨b, k, none⟩ v0).setCell ⟨b, k + 1, none⟩ v1).setCell ⟨b, k + 2, none⟩ v2).frozen? x = w.frozen? x) := by
  have e01 : ∀ (w : World) v, (w.setCell ⟨b, k + 1, none⟩ v).cell? ⟨b, k, none⟩ = w.cell? ⟨b, k, none⟩ := fun w v => World.cell?_setCell_other w _ _ v (by simp)
  have e02 : ∀ (w : World) v, (w.setCell ⟨b, k + 2, none⟩ v).cell? ⟨b, k, none⟩ = w.cell? ⟨b, k, none⟩ := fun w v => World.cell?_setCell_other w _ _ v (by simp)
  have e10 : ∀ (w : World) v, (w.setCell ⟨b, k, none⟩ v).cell? ⟨b, k + 1, none⟩ = w.cell? ⟨b, k + 1, none⟩ := fun w v => World.cell?_setCell_other w _ _ v (by simp)
  have e12 : ∀ (w : World) v, (w.setCell ⟨b, k + 2, none⟩ v).cell? ⟨b, k + 1, none⟩ = w.cell? ⟨b, k + 1, none⟩ := fun w v => World.cell?_setCell_other w _ _ v (by simp)
  have e20 : ∀ (w : World) v, (w.setCell ⟨b, k, none⟩ v).cell? ⟨b, k + 2, none⟩ = w.cell? ⟨b, k + 2, none⟩ := fun w v => World.cell?_setCell_other w _ _ v (by simp)
  have e21 : ∀ (w : World) v, (w.setCell ⟨b, k + 1, none⟩ v).cell? ⟨b, k + 2, none⟩ = w.cell? ⟨b, k + 2, none⟩ := fun w v => World.cell?_setCell_other w _ _ v (by simp)
  refine ⟨?_, ?_, ?_, ?_, ?_⟩
  · rw [e02, e01]; exact World.cell?_setCell_same _ _ _ h0
  · rw [e12]; exact World.cell?_setCell_same _ _ _ ((e10 _ _).trans h1)
  · exact World.cell?_setCell_same _ _ _ (((e21 _ _).trans (e20 _ _)).trans h2)
  · intro c j h
    have hne : ∀ d, d ≤ 2 → (⟨b, k + d, none⟩ : Addr) ≠ ⟨c, j, none⟩ := by
      intro d hd e
      injection e with e1 e2 _
      omega
    rw [World.cell?_setCell_other _ _ _ _ (hne 2 (by omega)), World.cell?_setCell_other _ _ _ _ (hne 1 (by omega)), World.cell?_setCell_other w ⟨b, k, none⟩ _ _ (hne 0 (by omega))]
  · intro x
    simp [go_sem]
theorem below_set3 {B : Nat} {w0 w : World} (h : Below B w0 w) {b k : Nat} (hB : B ≤ b) (v0 v1 v2 : Value) : Below B w0 (((w.setCell ⟨b, k, none⟩ v0).setCell ⟨b, k + 1, none⟩ v1).setCell ⟨b, k + 2, none⟩ v2) :=
  ((h.setCell hB _).setCell hB _).setCell hB _

theorem TL.since {w : World} {b : Nat} {I S F O W N G : Int} {v : Value} (h : TL w b I S F O W N G v) (a : Int) :
    TL (((w.setCell ⟨b, 12, none⟩ (.int .u64 (a % 1000000000))).setCell ⟨b, 13, none⟩ (.int .i64 (a / 1000000000))).setCell ⟨b, 14, none⟩ (.pointer none)) b I S F O W a G v := by
  obtain ⟨s0, s1, s2, s3, s4⟩ := set3 w b 12 _ _ _ (.int .u64 (a % 1000000000)) (.int .i64 (a / 1000000000)) (.pointer none) h.n0 h.n1 h.n2
  exact ⟨(s3 b 0 (by omega)).trans h.cI, (s3 b 1 (by omega)).trans h.cS, (s3 b 2 (by omega)).trans h.f0, (s3 b 3 (by omega)).trans h.f1, (s3 b 4 (by omega)).trans h.f2, (s3 b 5 (by omega)).trans h.o0, (s3 b 6 (by omega)).trans h.o1, (s3 b 7 (by omega)).trans h.o2, (s3 b 11 (by omega)).trans h.cW, s0, s1, s2, (s3 b 15 (by omega)).trans h.cv, (s3 b 16 (by omega)).trans h.cG, fun i => (s4 _).trans (h.fz i)⟩
theorem since_far {w : World} {b : Nat} {I S F O W N G : Int} {v : Value} (h : TL w b I S F O W N G v) (a : Int) (c j : Nat) (hc : c ≠ b) :
    (((w.setCell ⟨b, 12, none⟩ (.int .u64 (a % 1000000000))).setCell ⟨b, 13, none⟩ (.int .i64 (a / 1000000000))).setCell ⟨b, 14, none⟩ (.pointer none)).cell? ⟨c, j, none⟩ = w.cell? ⟨c, j, none⟩ :=
  (set3 w b 12 _ _ _ (.int .u64 (a % 1000000000)) (.int .i64 (a / 1000000000)) (.pointer none) h.n0 h.n1 h.n2).2.2.2.1 c j (Or.inl hc)

structure St (w0 w : World) (B b R : Nat) (I S F O W N G a : Int) (v : Value) : Prop where
  tl : TL w b I S F O W N G v
  r0 : w.cell? ⟨R, 0, none⟩ = some (.int .u64 (a % 1000000000))
  r1 : w.cell? ⟨R, 1, none⟩ = some (.int .i64 (a / 1000000000))
  r2 : w.cell? ⟨R, 2, none⟩ = some (.pointer none)
  bel : Below B w0 w
  hB : B ≤ b
  hR : b < R
theorem St.ltR {w0 w : World} {B b R : Nat} {I S F O W N G a : Int} {v : Value} (h : St w0 w B b R I S F O W N G a v) : R < w.heap.size := World.block_lt_of_cell? w _ h.r0
theorem St.later {w0 w w1 : World} {B b R : Nat} {I S F O W N G a : Int} {v : Value} (h : St w0 w B b R I S F O W N G a v) (hb : Below w.heap.size w w1) : St w0 w1 B b R I S F O W N G a v :=
  ⟨h.tl.later hb, cell_later hb h.r0, cell_later hb h.r1, cell_later hb h.r2, h.bel.trans (hb.mono (by have := h.tl.lt; have := h.hB; omega)), h.hB, h.hR⟩

theorem Try.info44 : (Try.prog.info? 44).map (fun i => (i.zero, i.size, i.bytes)) = some (some (.agg #[.int .u64 0, .int .u64 0, .int .i64 0, .pointer none]), 4, 32) := by kernel_rfl


theorem TL.arr {w : World} {b : Nat} {I S F O W N G : Int} {v : Value} (h : TL w b I S F O W N G v) (u : Value) : TL (w.setCell ⟨b, 15, none⟩ u) b I S F O W N G u := by
  have e : ∀ j, j ≠ 15 → (w.setCell ⟨b, 15, none⟩ u).cell? ⟨b, j, none⟩ = w.cell? ⟨b, j, none⟩ := fun j hj => World.cell?_setCell_other w _ _ u (fun h => by injection h with _ h2 _; omega)
  exact ⟨(e 0 (by omega)).trans h.cI, (e 1 (by omega)).trans h.cS, (e 2 (by omega)).trans h.f0, (e 3 (by omega)).trans h.f1, (e 4 (by omega)).trans h.f2, (e 5 (by omega)).trans h.o0, (e 6 (by omega)).trans h.o1, (e 7 (by omega)).trans h.o2, (e 11 (by omega)).trans h.cW, (e 12 (by omega)).trans h.n0, (e 13 (by omega)).trans h.n1, (e 14 (by omega)).trans h.n2, World.cell?_setCell_same _ _ _ h.cv, (e 16 (by omega)).trans h.cG, fun i => by simp [go_sem, h.fz]⟩

theorem own_later {W w1 : World} {base e size n : Nat} {v : Value} {xs : List Value} (h : W.ownsRow base e size v n xs) (hb : Below W.heap.size W w1) : w1.ownsRow base e size v n xs := by
  refine ⟨h.1, ?_⟩
  rcases h.2 with h2 | ⟨g, cap, cur, hv, hg, hh, r⟩
  · exact Or.inl h2
  · exact Or.inr ⟨g, cap, cur, hv, hg, by rw [hb.block g (Array.getElem?_eq_some_iff.1 hh).1]; exact hh, r⟩
theorem own_set {w : World} {base e size n : Nat} {v : Value} {xs : List Value} (h : w.ownsRow base e size v n xs) (p : Addr) (u : Value) (hp : v.ownBlock ≠ some p.block) : (w.setCell p u).ownsRow base e size v n xs := by
  refine ⟨h.1, ?_⟩
  rcases h.2 with h2 | ⟨g, cap, cur, hv, hg, hh, r⟩
  · exact Or.inl h2
  · subst hv
    exact Or.inr ⟨g, cap, cur, rfl, hg, by rw [Below.heap_setCell _ _ _ _ (fun e => hp (by simp [Value.ownBlock, e]))]; exact hh, r⟩
theorem own_cut {w : World} {base e size g cap : Nat} {xs : List Value} (h : w.ownsRow base e size (.slice (some ⟨g, 0, none⟩) 1 cap) 1 xs) : w.ownsRow base e size (.slice (some ⟨g, 0, none⟩) 0 cap) 0 [] := by
  refine ⟨by simp, ?_⟩
  rcases h.2 with ⟨h2, _⟩ | ⟨g', cap', cur, hv, hg, hh, h1, h2, h3, h4⟩
  · simp at h2
  · simp at hv
    obtain ⟨rfl, rfl⟩ := hv
    exact Or.inr ⟨g, cap, cur, rfl, hg, hh, by omega, h2, h3, by simp⟩
theorem own_cap {w : World} {base e size g cap : Nat} {xs : List Value} (h : w.ownsRow base e size (.slice (some ⟨g, 0, none⟩) 1 cap) 1 xs) : 1 ≤ cap ∧ cap ≤ maxLen := by
  rcases h.2 with ⟨h2, _⟩ | ⟨g', cap', cur, hv, hg, hh, h1, h2, h3, h4⟩
  · simp at h2
  · simp at hv
    obtain ⟨rfl, rfl⟩ := hv
    exact ⟨h1, h2⟩
theorem own_four {w : World} {base e g cap : Nat} {x0 x1 x2 x3 : Value} (h : w.ownsRow base e 4 (.slice (some ⟨g, 0, none⟩) 1 cap) 1 [x0, x1, x2, x3]) :
    w.cell? ⟨g, 0, none⟩ = some x0 ∧ w.cell? ⟨g, 1, none⟩ = some x1 ∧ w.cell? ⟨g, 2, none⟩ = some x2 ∧ w.cell? ⟨g, 3, none⟩ = some x3 ∧ base ≤ g ∧ g < w.heap.size := by
  have hc := h.cells (g := g) rfl
  have hadd : ∀ j, (⟨g, 0, none⟩ : Addr).add j = ⟨g, j, none⟩ := fun j => by unfold Addr.add; split <;> simp_all
  simp only [hadd] at hc
  have := h.lt g rfl
  exact ⟨hc 0 _ rfl, hc 1 _ rfl, hc 2 _ rfl, hc 3 _ rfl, this.1, this.2⟩
theorem St.grown {w0 w x w1 : World} {B b R : Nat} {I S F O W N G a : Int} {v : Value} {row : Option Nat} (h : St w0 w B b R I S F O W N G a v) (hb : Below w.heap.size w x) (hg : x.grownBy w1 row) (hnb : some b ≠ row) (hnR : some R ≠ row) (hrow : ∀ k, row = some k → B ≤ k) : St w0 w1 B b R I S F O W N G a v := by
  have h' := h.later hb
  have e : ∀ j, w1.cell? ⟨b, j, none⟩ = x.cell? ⟨b, j, none⟩ := fun j => hg.cell_far ⟨b, j, none⟩ h'.tl.lt hnb
  have eR : ∀ j, w1.cell? ⟨R, j, none⟩ = x.cell? ⟨R, j, none⟩ := fun j => hg.cell_far ⟨R, j, none⟩ h'.ltR hnR
  have t := h'.tl
  refine ⟨⟨(e _).trans t.cI, (e _).trans t.cS, (e _).trans t.f0, (e _).trans t.f1, (e _).trans t.f2, (e _).trans t.o0, (e _).trans t.o1, (e _).trans t.o2, (e _).trans t.cW, (e _).trans t.n0, (e _).trans t.n1, (e _).trans t.n2, (e _).trans t.cv, (e _).trans t.cG, fun i => (hg.frozen_far ⟨b, i, none⟩ t.lt hnb).trans (t.fz i)⟩, (eR _).trans h'.r0, (eR _).trans h'.r1, (eR _).trans h'.r2, ?_, h.hB, h.hR⟩
  exact h'.bel.grown hg (by have := t.lt; have := h.hB; omega) hrow
theorem St.arr {w0 w : World} {B b R : Nat} {I S F O W N G a : Int} {v : Value} (h : St w0 w B b R I S F O W N G a v) (u : Value) : St w0 (w.setCell ⟨b, 15, none⟩ u) B b R I S F O W N G a u := by
  have e : ∀ j, (w.setCell ⟨b, 15, none⟩ u).cell? ⟨R, j, none⟩ = w.cell? ⟨R, j, none⟩ := fun j => World.cell?_setCell_other w _ _ u (fun h' => by injection h' with h2 _ _; have := h.hR; omega)
  exact ⟨h.tl.arr u, (e 0).trans h.r0, (e 1).trans h.r1, (e 2).trans h.r2, h.bel.setCell h.hB _, h.hB, h.hR⟩

theorem TL.origin {w : World} {b : Nat} {I S F O W N G : Int} {v : Value} (h : TL w b I S F O W N G v) (u : Int) :
    TL (((w.setCell ⟨b, 5, none⟩ (.int .u64 (u % 1000000000))).setCell ⟨b, 6, none⟩ (.int .i64 (u / 1000000000))).setCell ⟨b, 7, none⟩ (.pointer none)) b I S F u W N G v := by
  obtain ⟨s0, s1, s2, s3, s4⟩ := set3 w b 5 _ _ _ (.int .u64 (u % 1000000000)) (.int .i64 (u / 1000000000)) (.pointer none) h.o0 h.o1 h.o2
  exact ⟨(s3 b 0 (by omega)).trans h.cI, (s3 b 1 (by omega)).trans h.cS, (s3 b 2 (by omega)).trans h.f0, (s3 b 3 (by omega)).trans h.f1, (s3 b 4 (by omega)).trans h.f2, s0, s1, s2, (s3 b 11 (by omega)).trans h.cW, (s3 b 12 (by omega)).trans h.n0, (s3 b 13 (by omega)).trans h.n1, (s3 b 14 (by omega)).trans h.n2, (s3 b 15 (by omega)).trans h.cv, (s3 b 16 (by omega)).trans h.cG, fun i => (s4 _).trans (h.fz i)⟩
theorem TL.first {w : World} {b : Nat} {I S F O W N G : Int} {v : Value} (h : TL w b I S F O W N G v) (u : Int) :
    TL (((w.setCell ⟨b, 2, none⟩ (.int .u64 (u % 1000000000))).setCell ⟨b, 3, none⟩ (.int .i64 (u / 1000000000))).setCell ⟨b, 4, none⟩ (.pointer none)) b I S u O W N G v := by
  obtain ⟨s0, s1, s2, s3, s4⟩ := set3 w b 2 _ _ _ (.int .u64 (u % 1000000000)) (.int .i64 (u / 1000000000)) (.pointer none) h.f0 h.f1 h.f2
  exact ⟨(s3 b 0 (by omega)).trans h.cI, (s3 b 1 (by omega)).trans h.cS, s0, s1, s2, (s3 b 5 (by omega)).trans h.o0, (s3 b 6 (by omega)).trans h.o1, (s3 b 7 (by omega)).trans h.o2, (s3 b 11 (by omega)).trans h.cW, (s3 b 12 (by omega)).trans h.n0, (s3 b 13 (by omega)).trans h.n1, (s3 b 14 (by omega)).trans h.n2, (s3 b 15 (by omega)).trans h.cv, (s3 b 16 (by omega)).trans h.cG, fun i => (s4 _).trans (h.fz i)⟩
theorem TL.followed {w : World} {b : Nat} {I S F O W N G : Int} {v : Value} (h : TL w b I S F O W N G v) (u : Int) : TL (w.setCell ⟨b, 16, none⟩ (.int .i64 u)) b I S F O W N u v := by
  have e : ∀ j, j ≠ 16 → (w.setCell ⟨b, 16, none⟩ (.int .i64 u)).cell? ⟨b, j, none⟩ = w.cell? ⟨b, j, none⟩ := fun j hj => World.cell?_setCell_other w _ _ _ (fun h => by injection h with _ h2 _; omega)
  exact ⟨(e 0 (by omega)).trans h.cI, (e 1 (by omega)).trans h.cS, (e 2 (by omega)).trans h.f0, (e 3 (by omega)).trans h.f1, (e 4 (by omega)).trans h.f2, (e 5 (by omega)).trans h.o0, (e 6 (by omega)).trans h.o1, (e 7 (by omega)).trans h.o2, (e 11 (by omega)).trans h.cW, (e 12 (by omega)).trans h.n0, (e 13 (by omega)).trans h.n1, (e 14 (by omega)).trans h.n2, (e 15 (by omega)).trans h.cv, World.cell?_setCell_same _ _ _ h.cG, fun i => by simp [go_sem, h.fz]⟩
end Go.Proofs.Qxb6614268a
