import Derived.Test.Qxb6614224aWalkThree
namespace Go.Proofs.Qxb6614224a
open Go.RowKit

set_option maxHeartbeats 1000000 in
theorem bytes14 (n m p f v t : ByteArray) (s : Int) (w : World) (hn : n.size ≤ maxLen) (hm : m.size ≤ maxLen) (hp : p.size ≤ maxLen) (hf : f.size ≤ maxLen) (hv : v.size ≤ maxLen) (ht : t.size ≤ maxLen) :
    Calls Try.prog 14 #[.string n, .int .i64 s, .string m, .string p, .string f, .string v, .string t] w fun e w' => (∃ b, e = .returned (.bool b)) ∧ w' = w := by
  unfold maxLen at hn hm hp hf hv ht
  go_enter Try.func14, Try.ntmps14
  go_wp2
  all_goals
    go_ret
    exact ⟨⟨_, rfl⟩, rfl⟩

set_option maxHeartbeats 400000 in
theorem new15x (f v s : ByteArray) (w : World) :
    Calls Try.prog 15 #[.string f, .string v, .string s] w fun e w' => e = .returned (.agg #[.string f, .string v, .string s]) ∧ w.alloc (.cells #[.string f, .string v, .string s] 36) = w' := by
  go_enter Try.func15, Try.ntmps15
  go_wp2
  exact bodyPost_ret (v := .agg #[.string f, .string v, .string s]) (by simp [results, Try.results15, go_sem]) rfl ⟨rfl, rfl⟩

theorem wroteOther {W w7 : World} {b : Nat} {v : Value} (hb : Below W.heap.size (W.setCell ⟨b, 9, none⟩ v) w7) {c o : Nat} {u : Option Value} (hne : c ≠ b) (hc : c < W.heap.size) (h : W.cell? ⟨c, o, none⟩ = u) : w7.cell? ⟨c, o, none⟩ = u :=
  ((hb.cell (p := ⟨c, o, none⟩) hc).trans (World.cell?_setCell_other _ _ _ _ (fun e => hne (by injection e with e1 _ _; exact e1.symm)))).trans h

set_option maxHeartbeats 2000000 in
theorem walk4 (n : ByteArray) (s : Int) (m p f v t : ByteArray) (w : World) (hn : n.size ≤ maxLen) (hm : m.size ≤ maxLen) (hp : p.size ≤ maxLen) (hf : f.size ≤ maxLen) (hv : v.size ≤ maxLen) (ht : t.size ≤ maxLen) (hx : v.toList.isEmpty = false) :
    Calls Try.prog 4 #[.string n, .int .i64 s, .string m, .string p, .string f, .string v, .string t] w fun e w' => e = .returned (.bool true) ∧ Below w.heap.size w w' := by
  have hn' := hn
  have hm' := hm
  have hp' := hp
  have hf' := hf
  have hv' := hv
  have ht' := ht
  unfold maxLen at hn' hm' hp' hf' hv' ht'
  go_enter Try.func4, Try.ntmps4
  go_wp2_with fail
  refine (bytes14 n m p f v t s _ hn hm hp hf hv ht).mono ?_
  rintro e w' ⟨⟨b, rfl⟩, rfl⟩
  clear hn hm hp hf hv ht
  cases b
  · go_wp2_with fail
    go_ret
    exact ⟨rfl, Below.refl _ _⟩
  go_wp2_with fail
  iterate 6
    · go_ret
      exact ⟨rfl, Below.refl _ _⟩
  clear hn' hm' hp' hf' hv' ht'
  refine (req7 n m s _).mono ?_
  rintro e w1 ⟨rfl, c1, c2, z1, hb1⟩
  go_wp2_with fail
  refine (hdr8 n s _ _ _).mono ?_
  rintro e w2 ⟨rfl, hb2⟩
  obtain ⟨k2, f2, z2⟩ := laterCells hb2
  replace hb2 := later hb2
  replace c1 := cell_later hb2 c1
  replace c2 := cell_later hb2 c2
  have z1' : w'.heap.size + 2 < w2.heap.size := by omega
  have z1'' : w'.heap.size + 1 < w2.heap.size := by omega
  have hb := hb1.trans (hb2.mono hb1.size)
  clear hb1 hb2 z1 f2
  generalize w1.heap.size = B at *
  clear w1
  go_wp2_with fail
  refine (new9 p _).mono ?_
  rintro e w3 ⟨rfl, rfl⟩
  go_wp2_with fail
  go_region_with (first | (go_at_call 15; go_must (refine (new15x f v t _).mono ?_; rintro e w6 ⟨rfl, rfl⟩)) | (go_at_call 13; go_must (refine (read13v n f v t p s _ _ _ _ hx ?ha ?hb ?hc ?hd ?he).mono ?_; (case ha => go_simp); (case hb => go_simp); (case hc => go_simp); (case hd => (simp; try omega)); (case he => (simp; omega)); rintro e w7 ⟨rfl, hb7⟩)))
  all_goals
    replace hb := hb.trans ((((((Below.refl w'.heap.size w2).alloc hb.size _).alloc (by simp; have := hb.size; omega) _).drew).setCell hb.size _).trans (hb7.mono (by simp; have := hb.size; omega)))
    have e7 := wrote (old := .string p) (by go_simp) hb7
    replace c2 := wroteOther hb7 (c := w'.heap.size + 2) (o := 0) (u := some fld) (by omega) (by simp; omega) (by go_simp)
    replace k2 := fun i => wroteOther hb7 (c := B) (o := i) (u := (itemCells n s (w'.heap.size + 1) (w'.heap.size + 2))[i]?) (by omega) (by simp; omega) (by go_simp)
    replace c1 : w'.heap.size + 2 < w7.heap.size := by have := hb7.size; simp [World.setCell] at this; omega
    have z7 : w2.heap.size < w7.heap.size := by have := hb7.size; simp [World.setCell] at this; omega
    clear hb7 z1' z1'' z2
    generalize w2.heap.size = C at *
    clear w2
    go_wp2_with fail
    refine (out12 _ v _ e7).mono ?_
    rintro e w8 ⟨rfl, rfl⟩
    go_wp2_with fail
    refine (lines10 n v s _ _ _ _ c2 e7 c1 z7).mono ?_
    rintro e w9 ⟨rfl, d0, d1, d2, z9, hb9⟩
    go_wp2_with fail
    refine (fields11 _ _ _ _).mono ?_
    rintro e w10 ⟨rfl, hb10⟩
    go_wp2_with fail
    go_ret
    exact ⟨rfl, (hb.trans (hb9.mono hb.size)).trans (hb10.mono (by have := hb.size; have := hb9.size; omega))⟩

set_option maxHeartbeats 2000000 in
theorem walk4e (n : ByteArray) (s : Int) (m p f t : ByteArray) (w : World) (hn : n.size ≤ maxLen) (hm : m.size ≤ maxLen) (hp : p.size ≤ maxLen) (hf : f.size ≤ maxLen) (ht : t.size ≤ maxLen) :
    Calls Try.prog 4 #[.string n, .int .i64 s, .string m, .string p, .string f, .string ⟨#[]⟩, .string t] w fun e w' => e = .returned (.bool true) ∧ Below w.heap.size w w' := by
  have hn' := hn
  have hm' := hm
  have hp' := hp
  have hf' := hf
  have ht' := ht
  unfold maxLen at hn' hm' hp' hf' ht'
  go_enter Try.func4, Try.ntmps4
  go_wp2_with fail
  refine (bytes14 n m p f ⟨#[]⟩ t s _ hn hm hp hf (Nat.zero_le _) ht).mono ?_
  rintro e w' ⟨⟨b, rfl⟩, rfl⟩
  clear hn hm hp hf ht
  cases b
  · go_wp2_with fail
    go_ret
    exact ⟨rfl, Below.refl _ _⟩
  go_wp2_with fail
  iterate 5
    · go_ret
      exact ⟨rfl, Below.refl _ _⟩
  clear hn' hm' hp' hf' ht'
  refine (req7 n m s _).mono ?_
  rintro e w1 ⟨rfl, c1, c2, z1, hb1⟩
  go_wp2_with fail
  refine (hdr8 n s _ _ _).mono ?_
  rintro e w2 ⟨rfl, hb2⟩
  obtain ⟨k2, f2, z2⟩ := laterCells hb2
  replace hb2 := later hb2
  replace c1 := cell_later hb2 c1
  replace c2 := cell_later hb2 c2
  have z1' : w'.heap.size + 2 < w2.heap.size := by omega
  have z1'' : w'.heap.size + 1 < w2.heap.size := by omega
  have hb := hb1.trans (hb2.mono hb1.size)
  clear hb1 hb2 z1 f2
  generalize w1.heap.size = B at *
  clear w1
  go_wp2_with fail
  refine (new9 p _).mono ?_
  rintro e w3 ⟨rfl, rfl⟩
  go_wp2_with fail
  go_region_with (first | (go_at_call 15; go_must (refine (new15x f ⟨#[]⟩ t _).mono ?_; rintro e w6 ⟨rfl, rfl⟩)) | (go_at_call 13; go_must (refine (read13e n f m t s _ _ _ _ ?ha ?hb).mono ?_; (case ha => exact cell_later ((((Below.refl w2.heap.size w2).alloc (Nat.le_refl _) _).alloc (by simp) _).drew) c1); (case hb => (simp; omega)); rintro e w7 ⟨⟨c, rfl⟩, hb7⟩)))
  all_goals
    replace hb := hb.trans (((((Below.refl w'.heap.size w2).alloc hb.size _).alloc (by simp; have := hb.size; omega) _).drew).trans (hb7.mono (by simp; have := hb.size; omega)))
    have e7 := cell_later hb7 (a := ⟨w2.heap.size, 9, none⟩) (v := .string p) (by go_simp)
    replace c2 := cell_later hb7 (a := ⟨w'.heap.size + 2, 0, none⟩) (v := fld) (by go_simp)
    replace k2 := fun i => (hb7.cell (p := ⟨B, i, none⟩) (by simp; omega)).trans (show _ = (itemCells n s (w'.heap.size + 1) (w'.heap.size + 2))[i]? by go_simp)
    replace c1 : w'.heap.size + 2 < w7.heap.size := by have := hb7.size; simp at this; omega
    have z7 : w2.heap.size < w7.heap.size := by have := hb7.size; simp at this; omega
    clear hb7 z1' z1'' z2
    generalize w2.heap.size = C at *
    clear w2
    go_wp2_with fail
    refine (out12 _ p _ e7).mono ?_
    rintro e w8 ⟨rfl, rfl⟩
    go_wp2_with fail
    refine (lines10 n p s _ _ _ _ c2 e7 c1 z7).mono ?_
    rintro e w9 ⟨rfl, d0, d1, d2, z9, hb9⟩
    go_wp2_with fail
    refine (fields11 _ _ _ _).mono ?_
    rintro e w10 ⟨rfl, hb10⟩
    go_wp2_with fail
    go_ret
    exact ⟨rfl, (hb.trans (hb9.mono hb.size)).trans (hb10.mono (by have := hb.size; have := hb9.size; omega))⟩
end Go.Proofs.Qxb6614224a
