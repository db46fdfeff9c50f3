import Derived.Test.Qxb6614268aState
namespace Go.Proofs.Qxb6614268a
open Go.RowKit
set_option linter.unusedVariables false

set_option maxHeartbeats 4000000 in
set_option maxRecDepth 100000 in
theorem follow_i (B b c cap0 : Nat) (I S O W N G i a L i0 a0 bd : Int) (w : World) (hT : TL w b I S O O W N G (.slice (some ⟨c, 0, none⟩) 1 cap0)) (hown : w.ownsRow B 44 4 (.slice (some ⟨c, 0, none⟩) 1 cap0) 1 [.int .u64 i0, .int .u64 (a0 % 1000000000), .int .i64 (a0 / 1000000000), .pointer none]) (hcb : c ≠ b) (hB : B ≤ b) (HL : Hid (O + i * I - a = L)) (HL0 : Hid (O + i0 * I - a0 = L)) (HBD : Hid ((if S < L - S then S else L - S) = bd))
    (h1 : 0 ≤ i) (h2 : i ≤ 4096) (h3 : 0 ≤ I) (h4 : I ≤ 68719476736) (h5 : 0 ≤ O) (h6 : O ≤ 1200000000000000000) (h7 : 0 < a) (h8 : a ≤ 1500000000000000000) (h9 : 1 ≤ W) (h10 : W ≤ 1099511627776) (h11 : 1 ≤ S) (h12 : S ≤ 1099511627776) (h13 : 1 ≤ L) (h14 : L ≤ 17592186044416) (h15 : 0 < N) (h16 : N ≤ 1500000000000000000) (g1 : 0 ≤ i0) (g2 : i0 ≤ 4096) (g3 : 0 ≤ a0) (g4 : a0 ≤ 1500000000000000000) (h17 : 0 ≤ G) (h18 : G ≤ 17592186044416) (D : Int) (HDe : Hid (a - N = D)) (hD : D < W) :
    Calls Try.prog 10 #[.pointer (some ⟨b, 0, none⟩), .int .u64 i, tm a, .bool false] w fun e w' => e = .returned (.bool false) ∧ Below B w w' ∧ ∃ gg cap, TL w' b I S (O) (O) W N (G) (.slice (some ⟨gg, 0, none⟩) 1 cap) ∧ w'.ownsRow B 44 4 (.slice (some ⟨gg, 0, none⟩) 1 cap) 1 [.int .u64 i, .int .u64 (a % 1000000000), .int .i64 (a / 1000000000), .pointer none] ∧ gg ≠ b := by
  have hlt := hT.lt
  have hlc := (own_four hown).2.2.2.2.2
  obtain ⟨cI, cS, f0, f1, f2, o0, o1, o2, cW, n0, n1, n2, cv, cG, fz⟩ := id hT
  have hW0 : (W == 0) = false := by simp; omega
  have HZ : Hid (∀ X : World, Calls Try.prog 16 #[tm N] X fun e w' => e = .returned (.bool false) ∧ Below X.heap.size X w') := by
    intro X
    have := isZero N X
    rw [show decide (N = 0) = false by simp; omega] at this
    exact this
  go_enter Try.func10, Try.ntmps10
  go_wp2_with fail
  refine (HZ.out _).mono ?_
  rintro e w2 ⟨rfl, hb1⟩
  obtain ⟨k1, q1, z1⟩ := laterCells hb1
  replace hb1 := later hb1
  clear cI cS f0 f1 f2 o0 o1 o2 cW n0 n1 n2 cv cG fz HZ
  go_wp2_with fail
  have hS : St w w2 B b w.heap.size I S O O W N G a (.slice (some ⟨c, 0, none⟩) 1 cap0) :=
    ⟨hT.later hb1, k1 0, k1 1, k1 2, hb1.mono (by omega : B ≤ w.heap.size), hB, hlt⟩
  replace hown := own_later hown hb1
  clear k1 q1 hb1 z1 hT hlt
  generalize hR : w.heap.size = R at *
  clear hR
  have hm1 : 0 ≤ i * I := Int.mul_nonneg h1 h3
  have hm2 : i * I ≤ 4096 * 68719476736 := Int.mul_le_mul h2 h4 h3 (by decide)
  have HD : Hid (∀ X : World, Below w2.heap.size w2 X → Calls Try.prog 17 #[.pointer (some ⟨b, 0, none⟩), .int .u64 i] X fun e w' => e = .returned (tm (O + i * I)) ∧ Below X.heap.size X w') := by
    intro X hX
    have h := hS.tl.later hX
    exact due17 b I O i X h.cI h.o0 h.o1 h.o2 h.lt h1 h2 h3 h4 h5 h6
  have HU : Hid (∀ X : World, Calls Try.prog 11 #[tm (O + i * I), tm a] X fun e w' => e = .returned (.int .i64 L) ∧ Below X.heap.size X w') := by
    intro X
    rw [← HL.out]
    exact sub (O + i * I) a X (by omega) (by omega) (by omega) (by omega)
  obtain ⟨u, HE⟩ : ∃ u, Hid (O + i * I = u) := ⟨_, rfl⟩
  rw [HE.out] at HD HU
  have rA := hS.r0
  have rB := hS.r1
  have rC := hS.r2
  go_region_held3 (fun x => x.cell? ⟨R, 0, none⟩ = some (.int .u64 (a % 1000000000)) ∧ x.cell? ⟨R, 1, none⟩ = some (.int .i64 (a / 1000000000)) ∧ x.cell? ⟨R, 2, none⟩ = some (.pointer none))
    (first | (exact ⟨rA, rB, rC⟩) | (go_split_ands; exact ⟨cell_later hb3 (by assumption), cell_later hb3 (by assumption), cell_later hb3 (by assumption)⟩) | (go_split_ands; exact ⟨cell_later hb4 (by assumption), cell_later hb4 (by assumption), cell_later hb4 (by assumption)⟩))
    (first | (go_at_call 17; refine (HD.out _ ?hW).mono ?_; (case hW => exact (Below.refl _ _).drew); rintro e w3 ⟨rfl, hb3⟩) | (go_at_call 11; refine (HU.out _).mono ?_; rintro e w4 ⟨rfl, hb4⟩))
  replace hb3 := ((Below.refl w2.heap.size w2).drew).trans hb3
  replace hS := (hS.later hb3).later hb4
  rename_i hHeld
  clear hHeld
  replace hown := own_later (own_later hown hb3) hb4
  clear rA rB rC hb3 hb4 HD HU hm1 hm2
  clear w2 w3
  have HV0 : Hid (∀ X : World, Below w4.heap.size w4 X → Calls Try.prog 18 #[.pointer (some ⟨b, 0, none⟩), .agg #[.int .u64 i0, .int .u64 (a0 % 1000000000), .int .i64 (a0 / 1000000000), .pointer none]] X fun e w' => e = .returned (.int .i64 L) ∧ Below X.heap.size X w') := by
    intro X hX
    have h := hS.tl.later hX
    rw [← HL0.out]
    exact lead18 b I O i0 a0 X h.cI h.o0 h.o1 h.o2 h.lt g1 g2 h3 h4 h5 h6 g3 (by omega)
  have cv := hS.tl.cv
  obtain ⟨q0, q1, q2, q3, hBg0, hgl⟩ := own_four hown
  obtain ⟨hcp1, hcp2⟩ := own_cap hown
  unfold maxLen at hcp2
  go_wp2_with fail
  refine wp_loop_rounds 2 ?_
  rw [rounds_succ]
  go_wp2_with fail
  refine (HV0.out _ (Below.refl _ _)).mono ?_
  rintro e w5 ⟨rfl, hb5⟩
  replace hS := hS.later hb5
  replace hown := own_later hown hb5
  clear q0 q1 q2 q3 hgl cv HV0 hb5
  go_wp2_with fail
  rw [rounds_succ]
  go_wp2_with fail
  go_cut [] from 12 (fun w' => ∃ gg cap, St w w' B b R I S O O W N G a (.slice (some ⟨gg, 0, none⟩) 1 cap) ∧ w'.ownsRow B 44 4 (.slice (some ⟨gg, 0, none⟩) 1 cap) 1 [.int .u64 i, .int .u64 (a % 1000000000), .int .i64 (a / 1000000000), .pointer none] ∧ gg ≠ b ∧ gg ≠ R)
  case first =>
    have cv := hS.tl.cv
    have r0 := hS.r0
    have r1 := hS.r1
    have r2 := hS.r2
    have fz := hS.tl.fz
    have ltR := hS.ltR
    have ltb := hS.tl.lt
    have hbR := hS.hR
    obtain ⟨i1, hi0, hz0, hz1, hz2⟩ := info_parts Try.info44
    have hown0 := own_cut hown
    have hAl : ∀ o, Below w5.heap.size w5 (w5.alloc o).drew := fun o => ((Below.refl w5.heap.size w5).alloc (Nat.le_refl _) _).drew
    have hne : ∀ x : Nat, x ≠ c → some x ≠ (Value.slice (some ⟨c, 0, none⟩) 0 cap0).ownBlock := fun x hx => by simp [Value.ownBlock]; exact hx
    go_region_law (first | (refine step_append_lies _ (by rfl) _ _ _ (by rfl) B 44 i1 _ 4 32 Try.underlying33 hi0 hz0 hz1 hz2 rfl (by omega) (.slice (some ⟨c, 0, none⟩) 0 cap0) 0 [] (by rfl) ((hown0.alloc _).drew) ⟨w5.heap.size, 0, none⟩ 1 1 [.int .u64 i, .int .u64 (a % 1000000000), .int .i64 (a / 1000000000), .pointer none] (by rfl) (by rfl) (World.news_of_block (cs := #[.int .u64 i, .int .u64 (a % 1000000000), .int .i64 (a / 1000000000), .pointer none]) (t := 44) (fr := (0, 0)) (heap_alloc_new w5 _)) (by simp [Value.oneCell']) (by omega) (by decide) (by decide) (by simp; omega) (w5.heap.size + 1) (by simp) ?_; intro gg cap w6 hown1 hgrow hat hlt5; have cv5 := hgrow.cell (a := ⟨b, 15, none⟩) (v := .slice (some ⟨c, 0, none⟩) 1 cap0) (by exact cell_later (hAl _) cv) (hne b hcb.symm); have fz5 := (hgrow.frozen_far ⟨b, 15, none⟩ (by simp; omega) (hne b hcb.symm)).trans (((hAl _).frozen (p := ⟨b, 15, none⟩) ltb).trans (fz 15))))
    all_goals
      have hS5 : St w w6 B b R I S O O W N G a (.slice (some ⟨c, 0, none⟩) 1 cap0) := St.grown hS (hAl _) hgrow (hne b hcb.symm) (hne R (by omega)) (fun k hk => by simp [Value.ownBlock] at hk; omega)
      have hgg : gg ≠ b ∧ gg ≠ R := by
        rcases hat with h | h
        · simp [Value.ownBlock] at h; omega
        · omega
      go_wp2_with fail
      go_meet
      case rel => exact ⟨gg, cap, St.arr hS5 _, own_set hown1 _ _ (by simp [Value.ownBlock]; exact hgg.1), hgg.1, hgg.2⟩
  case rest =>
    obtain ⟨gg, cap, hS, hown, hgb, hgR⟩ := hcut
    obtain ⟨hcap1, hcap2⟩ := own_cap hown
    unfold maxLen at hcap2
    have hX1 : 0 < (1 : Int) := by decide
    have hwn : IntKind.i64.wrap (-W) = -W := i64_ok (-W) (by omega) (by omega)
    have HA : Hid (∀ X : World, Calls Try.prog 9 #[tm a, .int .i64 (-W)] X fun e w' => e = .returned (tm (a + -W)) ∧ Below X.heap.size X w') := fun X => add9 a (-W) X (by omega) (by omega) (by omega) (by omega)
    have HB : Hid (∀ X : World, Calls Try.prog 19 #[tm a, tm (a + -W)] X fun e w' => e = .returned (.bool false) ∧ Below X.heap.size X w') := by
      intro X
      have := before a (a + -W) X
      rw [show decide (a < a + -W) = false by simp; omega] at this
      exact this
    obtain ⟨q0, q1, q2, q3, hBg, hgl⟩ := own_four hown
    have cv := hS.tl.cv
    have rA := hS.r0
    have rB := hS.r1
    have rC := hS.r2
    have cW := hS.tl.cW
    go_wp2_with fail
    refine wp_loop_rounds 1 ?_
    rw [rounds_succ]
    go_wp2_with fail
    go_region_held3 (fun x => x.cell? ⟨b, 15, none⟩ = some (.slice (some ⟨gg, 0, none⟩) 1 cap) ∧ x.cell? ⟨gg, 1, none⟩ = some (.int .u64 (a % 1000000000)) ∧ x.cell? ⟨gg, 2, none⟩ = some (.int .i64 (a / 1000000000)) ∧ x.cell? ⟨gg, 3, none⟩ = some (.pointer none) ∧ x.cell? ⟨R, 0, none⟩ = some (.int .u64 (a % 1000000000)) ∧ x.cell? ⟨R, 1, none⟩ = some (.int .i64 (a / 1000000000)) ∧ x.cell? ⟨R, 2, none⟩ = some (.pointer none) ∧ x.cell? ⟨b, 11, none⟩ = some (.int .i64 W))
      (first | (exact ⟨cv, q1, q2, q3, rA, rB, rC, cW⟩) | (go_split_ands; (repeat' apply And.intro) <;> (refine cell_later hb5 ?_; assumption)) | (go_split_ands; (repeat' apply And.intro) <;> (refine cell_later hb6 ?_; assumption)))
      (first | (go_at_call 9; refine (HA.out _).mono ?_; rintro e w5 ⟨rfl, hb5⟩) | (go_at_call 19; refine (HB.out _).mono ?_; rintro e w6 ⟨rfl, hb6⟩))
    replace hb5 := ((Below.refl wc.heap.size wc).drew).trans hb5
    replace hS := (hS.later hb5).later hb6
    replace hown := own_later (own_later hown hb5) hb6
    rename_i hHeld
    clear hHeld
    clear hb5 hb6 HA HB hwn cv rA rB rC cW q0 q1 q2 q3 hgl
    clear wc w5
    go_wp2_with fail
    have hwL : IntKind.i64.wrap (L - S) = L - S := i64_ok (L - S) (by omega) (by omega)
    obtain ⟨q0, q1, q2, q3, _, hgl⟩ := own_four hown
    have cv := hS.tl.cv
    have cS := hS.tl.cS
    have HV : Hid (∀ X : World, Below w6.heap.size w6 X → Calls Try.prog 18 #[.pointer (some ⟨b, 0, none⟩), .agg #[.int .u64 i, .int .u64 (a % 1000000000), .int .i64 (a / 1000000000), .pointer none]] X fun e w' => e = .returned (.int .i64 L) ∧ Below X.heap.size X w') := by
      intro X hX
      have h := hS.tl.later hX
      rw [← HL.out]
      exact lead18 b I O i a X h.cI h.o0 h.o1 h.o2 h.lt h1 h2 h3 h4 h5 h6 (by omega) (by omega)
    go_region_held3 (fun x => x.cell? ⟨b, 15, none⟩ = some (.slice (some ⟨gg, 0, none⟩) 1 cap) ∧ x.cell? ⟨gg, 0, none⟩ = some (.int .u64 i) ∧ x.cell? ⟨gg, 1, none⟩ = some (.int .u64 (a % 1000000000)) ∧ x.cell? ⟨gg, 2, none⟩ = some (.int .i64 (a / 1000000000)) ∧ x.cell? ⟨gg, 3, none⟩ = some (.pointer none) ∧ x.cell? ⟨b, 1, none⟩ = some (.int .i64 S))
      (first | (exact ⟨cv, q0, q1, q2, q3, cS⟩) | (go_split_ands; (repeat' apply And.intro) <;> (refine cell_later hb7 ?_; assumption)) | (go_split_ands; (repeat' apply And.intro) <;> assumption))
      (first | (go_at_call 18; refine (HV.out _ ?hW).mono ?_; (case hW => exact (Below.refl _ _).drew); rintro e w7 ⟨rfl, hb7⟩))
    replace hb7 := ((Below.refl w6.heap.size w6).drew).trans hb7
    replace hS := hS.later hb7
    replace hown := own_later hown hb7
    rename_i hHeld
    clear hHeld
    clear hb7 HV hwL cv cS q0 q1 q2 q3 hgl
    clear w6
    rw [HBD.out]
    go_wp2_with fail
    have HZ : Hid (∀ X : World, Calls Try.prog 11 #[tm a, tm N] X fun e w' => e = .returned (.int .i64 D) ∧ Below X.heap.size X w') := by
      intro X
      rw [← HDe.out]
      exact sub a N X (by omega) (by omega) (by omega) (by omega)
    have hdW : decide (D < W) = true := by simp; exact hD
    have n0 := hS.tl.n0
    have n1 := hS.tl.n1
    have n2 := hS.tl.n2
    have rA := hS.r0
    have rB := hS.r1
    have rC := hS.r2
    have cW := hS.tl.cW
    have ltb := hS.tl.lt
    clear hcap1 hcap2 hX1 hBg HE HL HL0 HBD
    first | (go_region_with (first | (go_at_call 11; refine (HZ.out _).mono ?_; rintro e w8 ⟨rfl, hb8⟩; have cW8 := cell_later hb8 cW))) | fail
    all_goals
      replace hb8 := ((Below.refl w7.heap.size w7).drew).trans hb8
      replace hS := hS.later hb8
      replace hown := own_later hown hb8
      clear n0 n1 n2 rA rB rC cW cW8 HZ
      go_wp2_with fail
      go_ret
      exact ⟨rfl, hS.bel, gg, cap, hS.tl, hown, hgb⟩
end Go.Proofs.Qxb6614268a
