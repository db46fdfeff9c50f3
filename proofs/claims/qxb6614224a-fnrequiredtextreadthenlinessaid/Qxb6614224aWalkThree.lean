import Derived.Test.Qxb6614224aParts
namespace Go.Proofs.Qxb6614224a
open Go.RowKit

theorem empty_of (o : ByteArray) (h : o.toList.isEmpty = true) : o = ⟨#[]⟩ := by
  have h1 : o.toList = [] := by simpa using h
  rw [ByteArray.toList_eq] at h1
  cases o with
  | mk d => simp at h1; rw [h1]

theorem later {W w1 : World} {o : Obj} (hb : Below (W.alloc o).heap.size (W.alloc o) w1) : Below W.heap.size W w1 :=
  ((Below.refl _ _).alloc (Nat.le_refl _) o).trans (hb.mono (by simp))
theorem laterCells {W w1 : World} {C : Array Value} {T : TypeId} (hb : Below (W.alloc (.cells C T)).heap.size (W.alloc (.cells C T)) w1) :
    (∀ i, w1.cell? ⟨W.heap.size, i, none⟩ = C[i]?) ∧ (∀ i, w1.frozen? ⟨W.heap.size, i, none⟩ = false) ∧ W.heap.size < w1.heap.size := by
  refine ⟨fun i => ?_, fun i => ?_, ?_⟩
  · rw [hb.cell (p := ⟨W.heap.size, i, none⟩) (by simp), World.cell?_alloc_at _ _ _ _ rfl]
  · rw [hb.frozen (p := ⟨W.heap.size, i, none⟩) (by simp), World.frozen?_alloc_at _ _ _ _ rfl]
  · have := hb.size; simp at this; omega

theorem wrote {W w5 : World} {b : Nat} {v old : Value} (h : W.cell? ⟨b, 9, none⟩ = some old) (hb : Below W.heap.size (W.setCell ⟨b, 9, none⟩ v) w5) : w5.cell? ⟨b, 9, none⟩ = some v :=
  (hb.cell (p := ⟨b, 9, none⟩) (World.block_lt_of_cell? _ _ h)).trans (World.cell?_setCell_same _ _ _ h)

set_option maxHeartbeats 1000000 in
theorem walk3 (n : ByteArray) (s : Int) (m : ByteArray) (o : ByteArray) (w : World) (hn : n.size ≤ maxLen) (hm : m.size ≤ maxLen) (ho : o.size ≤ maxLen) (hv : o.toList.isEmpty = false) :
    Calls Try.prog 3 #[.string n, .int .i64 s, .string m, .string o] w fun e w' => e = .returned (.bool true) ∧ Below w.heap.size w w' := by
  have hn' := hn
  have hm' := hm
  have ho' := ho
  unfold maxLen at hn' hm' ho'
  go_enter Try.func3, Try.ntmps3
  go_wp2_with fail
  refine (bytes6 n m o s _ hn hm ho).mono ?_
  rintro e w' ⟨⟨b, rfl⟩, rfl⟩
  clear hn hm ho
  cases b
  · go_wp2_with fail
    go_ret
    exact ⟨rfl, Below.refl _ _⟩
  go_wp2_with fail
  · go_ret
    exact ⟨rfl, Below.refl _ _⟩
  · go_ret
    exact ⟨rfl, Below.refl _ _⟩
  · go_ret
    exact ⟨rfl, Below.refl _ _⟩
  refine (req7 n m s _).mono ?_
  rintro e w1 ⟨rfl, c1, c2, z1, hb1⟩
  go_wp2_with fail
  refine (hdr8 n s _ _ _).mono ?_
  rintro e w2 ⟨rfl, hb2⟩
  obtain ⟨k2, f2, z2⟩ := laterCells hb2
  replace hb2 := later hb2
  replace c1 := cell_later hb2 c1
  replace c2 := cell_later hb2 c2
  have z1' : w'.heap.size + 2 < w2.heap.size := by omega
  have z1'' : w'.heap.size + 1 < w2.heap.size := by omega
  have hb := hb1.trans (hb2.mono hb1.size)
  clear hb1 hb2 z1
  generalize w1.heap.size = B at *
  clear w1
  go_wp2_with fail
  refine (new9 o _).mono ?_
  rintro e w3 ⟨rfl, rfl⟩
  go_wp2_with fail
  refine (lines10 n o s _ _ _ _ ?_ ?_ ?_ ?_).mono ?_
  · go_simp
  · go_simp
  · simp; omega
  · simp
  rintro e w3 ⟨rfl, d0, d1, d2, z3a, hb3⟩
  obtain ⟨k3, f3, z3⟩ := laterCells hb3
  replace hb3 := later hb3
  replace c1 := cell_later hb3 c1
  replace c2 := cell_later hb3 c2
  replace k2 := fun i => (hb3.cell (p := ⟨B, i, none⟩) z2).trans (k2 i)
  clear f2
  simp at d0 d1 d2 z3a
  go_wp2_with fail
  refine (fields11 _ _ _ _).mono ?_
  rintro e w4 ⟨rfl, hb4⟩
  have z4 : w2.heap.size < w4.heap.size := by have := hb4.size; omega
  have z4a : w2.heap.size + 1 + 1 < w4.heap.size := by have := hb4.size; omega
  have z4b : w'.heap.size + 2 < w4.heap.size := by omega
  have z4c : w'.heap.size + 1 < w4.heap.size := by omega
  have z4d : B < w4.heap.size := by omega
  replace c1 := cell_later hb4 c1
  replace c2 := cell_later hb4 c2
  replace d0 := cell_later hb4 d0
  replace d1 := cell_later hb4 d1
  replace d2 := cell_later hb4 d2
  replace k2 := fun i => (hb4.cell (p := ⟨B, i, none⟩) (show B < w3.heap.size by omega)).trans (k2 i)
  replace k3 := fun i => (hb4.cell (p := ⟨w2.heap.size, i, none⟩) z3).trans (k3 i)
  replace hb := (hb.trans (hb3.mono hb.size)).trans (hb4.mono (by have := hb.size; omega))
  clear hb3 hb4 f3 z3 z3a z1' z1'' z2
  generalize w2.heap.size = C at *
  clear w2 w3
  go_wp2_with fail
  refine (out12 _ o _ ?_).mono ?_
  · go_simp
  rintro e w5 ⟨rfl, rfl⟩
  go_wp2_with fail
  refine (new9 _ _).mono ?_
  rintro e w6 ⟨rfl, rfl⟩
  clear k3
  go_wp2_with fail
  go_region_with (go_at_call 13; go_must (refine (read13v n _ o _ ⟨#[]⟩ s _ _ _ _ hv ?ha ?hb ?hc ?hd ?he).mono ?_; (case ha => go_simp); (case hb => go_simp); (case hc => go_simp); (case hd => simp); (case he => (simp; omega)); rintro e w7 ⟨rfl, hb7⟩))
  all_goals
    replace hb := hb.trans (((((Below.refl w'.heap.size w5).alloc hb.size _).drew).setCell hb.size _).trans (hb7.mono (by simp; have := hb.size; omega)))
    replace hb7 := wrote (old := .string ⟨#[]⟩) (by go_simp) hb7
    go_wp2_with fail
    refine (out12 _ o _ hb7).mono ?_
    rintro e w8 ⟨rfl, rfl⟩
    go_wp2_with fail
    go_ret
    exact ⟨rfl, hb⟩
set_option maxHeartbeats 1000000 in
theorem walk3e (n : ByteArray) (s : Int) (m : ByteArray) (w : World) (hn : n.size ≤ maxLen) (hm : m.size ≤ maxLen) :
    Calls Try.prog 3 #[.string n, .int .i64 s, .string m, .string ⟨#[]⟩] w fun e w' => e = .returned (.bool true) ∧ Below w.heap.size w w' := by
  have hn' := hn
  have hm' := hm
  unfold maxLen at hn' hm'
  go_enter Try.func3, Try.ntmps3
  go_wp2_with fail
  refine (bytes6 n m ⟨#[]⟩ s _ hn hm (Nat.zero_le _)).mono ?_
  rintro e w' ⟨⟨b, rfl⟩, rfl⟩
  clear hn hm
  cases b
  · go_wp2_with fail
    go_ret
    exact ⟨rfl, Below.refl _ _⟩
  go_wp2_with fail
  · go_ret
    exact ⟨rfl, Below.refl _ _⟩
  · go_ret
    exact ⟨rfl, Below.refl _ _⟩
  refine (req7 n m s _).mono ?_
  rintro e w1 ⟨rfl, c1, c2, z1, hb1⟩
  go_wp2_with fail
  refine (hdr8 n s _ _ _).mono ?_
  rintro e w2 ⟨rfl, hb2⟩
  obtain ⟨k2, f2, z2⟩ := laterCells hb2
  replace hb2 := later hb2
  replace c1 := cell_later hb2 c1
  replace c2 := cell_later hb2 c2
  have z1' : w'.heap.size + 2 < w2.heap.size := by omega
  have z1'' : w'.heap.size + 1 < w2.heap.size := by omega
  have hb := hb1.trans (hb2.mono hb1.size)
  clear hb1 hb2 z1
  generalize w1.heap.size = B at *
  clear w1
  go_wp2_with fail
  refine (new9 ⟨#[]⟩ _).mono ?_
  rintro e w3 ⟨rfl, rfl⟩
  go_wp2_with fail
  refine (lines10 n ⟨#[]⟩ s _ _ _ _ ?_ ?_ ?_ ?_).mono ?_
  · go_simp
  · go_simp
  · simp; omega
  · simp
  rintro e w3 ⟨rfl, d0, d1, d2, z3a, hb3⟩
  obtain ⟨k3, f3, z3⟩ := laterCells hb3
  replace hb3 := later hb3
  replace c1 := cell_later hb3 c1
  replace c2 := cell_later hb3 c2
  replace k2 := fun i => (hb3.cell (p := ⟨B, i, none⟩) z2).trans (k2 i)
  clear f2
  simp at d0 d1 d2 z3a
  go_wp2_with fail
  refine (fields11 _ _ _ _).mono ?_
  rintro e w4 ⟨rfl, hb4⟩
  have z4 : w2.heap.size < w4.heap.size := by have := hb4.size; omega
  have z4a : w2.heap.size + 1 + 1 < w4.heap.size := by have := hb4.size; omega
  have z4b : w'.heap.size + 2 < w4.heap.size := by omega
  have z4c : w'.heap.size + 1 < w4.heap.size := by omega
  have z4d : B < w4.heap.size := by omega
  replace c1 := cell_later hb4 c1
  replace c2 := cell_later hb4 c2
  replace d0 := cell_later hb4 d0
  replace d1 := cell_later hb4 d1
  replace d2 := cell_later hb4 d2
  replace k2 := fun i => (hb4.cell (p := ⟨B, i, none⟩) (show B < w3.heap.size by omega)).trans (k2 i)
  replace k3 := fun i => (hb4.cell (p := ⟨w2.heap.size, i, none⟩) z3).trans (k3 i)
  replace hb := (hb.trans (hb3.mono hb.size)).trans (hb4.mono (by have := hb.size; omega))
  clear hb3 hb4 f3 z3 z3a z1' z1'' z2
  generalize w2.heap.size = C at *
  clear w2 w3
  go_wp2_with fail
  refine (out12 _ ⟨#[]⟩ _ ?_).mono ?_
  · go_simp
  rintro e w5 ⟨rfl, rfl⟩
  go_wp2_with fail
  refine (new9 _ _).mono ?_
  rintro e w6 ⟨rfl, rfl⟩
  clear k3
  go_wp2_with fail
  go_region_with (go_at_call 13; go_must (refine (read13e n _ m _ s _ _ _ _ ?ha ?hb).mono ?_; (case ha => go_simp); (case hb => (simp; omega)); rintro e w7 ⟨⟨c, rfl⟩, hb7⟩))
  all_goals
    replace hb := hb.trans ((((Below.refl w'.heap.size w5).alloc hb.size _).drew).trans (hb7.mono (by simp; have := hb.size; omega)))
    replace hb7 := cell_later hb7 (a := ⟨w5.heap.size, 9, none⟩) (v := .string ⟨#[]⟩) (by go_simp)
    go_wp2_with fail
    refine (out12 _ ⟨#[]⟩ _ hb7).mono ?_
    rintro e w8 ⟨rfl, rfl⟩
    go_wp2_with fail
    go_ret
    exact ⟨rfl, hb⟩
end Go.Proofs.Qxb6614224a
