import Derived.Test.Qxb6614268aState
namespace Go.Proofs.Qxb6614268a
open Go.RowKit
set_option linter.unusedVariables false

theorem addZero (d : Int) (X : World) (h1 : -4600000000000000000 ≤ d) (h2 : d ≤ 4600000000000000000) :
    Calls Try.prog 9 #[tv 0 0, .int .i64 d] X fun e w' => e = .returned (tm d) ∧ Below X.heap.size X w' := by
  have h := add9 0 d X (by omega) (by omega) h1 h2
  have e : tm 0 = tv 0 0 := rfl
  rw [e, Int.zero_add] at h
  exact h

theorem subZero (t : Int) (X : World) (h1 : -2000000000000000000 ≤ t) (h2 : t ≤ 2000000000000000000) :
    Calls Try.prog 11 #[tm t, tv 0 0] X fun e w' => e = .returned (.int .i64 t) ∧ Below X.heap.size X w' := by
  have h := sub t 0 X h1 h2 (by omega) (by omega)
  have e : tm 0 = tv 0 0 := rfl
  rw [e, Int.sub_zero] at h
  exact h

set_option maxHeartbeats 1000000 in
set_option maxRecDepth 100000 in
theorem zzfollow (b : Nat) (i a : Int) (r : Bool) (P : World → Prop) (w : World) (h1 : -4600000000000000000 ≤ a) (h2 : a ≤ 4600000000000000000)
    (H : Hid (∀ X : World, Below w.heap.size w X → Calls Try.prog 10 #[.pointer (some ⟨b, 0, none⟩), .int .u64 i, tm a, .bool false] X fun e w' => e = .returned (.bool r) ∧ P w')) :
    Calls Try.prog 5 #[.pointer (some ⟨b, 0, none⟩), .int .u64 i, .int .i64 a, .bool false] w fun e w' => e = .returned (.bool r) ∧ P w' := by
  go_enter Try.func5, Try.ntmps5
  go_wp2_with fail
  refine (addZero a _ h1 h2).mono ?_
  rintro e w1 ⟨rfl, hb1⟩
  replace hb1 := later hb1
  go_wp2_with fail
  refine (H.out _ hb1).mono ?_
  rintro e w2 ⟨rfl, hp⟩
  go_wp2_with fail
  go_ret
  exact ⟨rfl, hp⟩

set_option maxHeartbeats 1000000 in
theorem followed8 (b : Nat) (I S F O W N G : Int) (v : Value) (w : World) (hT : TL w b I S F O W N G v) :
    Calls Try.prog 8 #[.pointer (some ⟨b, 0, none⟩)] w fun e w' => e = .returned (.int .i64 G) ∧ w' = w := by
  have cG := hT.cG
  go_enter Try.func8, Try.ntmps8
  go_wp2
  go_ret
  exact ⟨rfl, rfl⟩

set_option maxHeartbeats 1000000 in
set_option maxRecDepth 100000 in
theorem origin6 (b : Nat) (I S F O W N G : Int) (v : Value) (w : World) (hT : TL w b I S F O W N G v) (h1 : 0 ≤ O) (h2 : O ≤ 1200000000000000000) :
    Calls Try.prog 6 #[.pointer (some ⟨b, 0, none⟩)] w fun e w' => e = .returned (.int .i64 O) ∧ Below w.heap.size w w' := by
  have lt := hT.lt
  have o0 := hT.o0
  have o1 := hT.o1
  have o2 := hT.o2
  have HS : Hid (∀ X : World, Calls Try.prog 11 #[tm O, tv 0 0] X fun e w' => e = .returned (.int .i64 O) ∧ Below X.heap.size X w') := fun X => subZero O X (by omega) (by omega)
  go_enter Try.func6, Try.ntmps6
  go_wp2_with fail
  go_region_held3 (fun x => x.cell? ⟨b, 5, none⟩ = some (.int .u64 (O % 1000000000)) ∧ x.cell? ⟨b, 6, none⟩ = some (.int .i64 (O / 1000000000)) ∧ x.cell? ⟨b, 7, none⟩ = some (.pointer none) ∧ x.cell? ⟨w.heap.size, 0, none⟩ = some (.int .u64 0) ∧ x.cell? ⟨w.heap.size, 1, none⟩ = some (.int .i64 0) ∧ x.cell? ⟨w.heap.size, 2, none⟩ = some (.pointer none))
    (first | (go_split_ands; (repeat' apply And.intro) <;> (refine cell_later hb2 ?_; assumption)) | (go_split_ands; (repeat' apply And.intro) <;> assumption) | ((repeat' apply And.intro) <;> go_simp))
    (first | (go_at_call 11; refine (HS.out _).mono ?_; rintro e w2 ⟨rfl, hb2⟩))
  go_wp2_with fail
  go_ret
  exact ⟨rfl, (((Below.refl w.heap.size w).alloc (Nat.le_refl _) _).drew).trans (hb2.mono (by simp))⟩

set_option maxHeartbeats 1000000 in
set_option maxRecDepth 100000 in
theorem first7 (b : Nat) (I S F O W N G : Int) (v : Value) (w : World) (hT : TL w b I S F O W N G v) (h1 : 0 ≤ F) (h2 : F ≤ 1200000000000000000) :
    Calls Try.prog 7 #[.pointer (some ⟨b, 0, none⟩)] w fun e w' => e = .returned (.int .i64 F) ∧ Below w.heap.size w w' := by
  have lt := hT.lt
  have o0 := hT.f0
  have o1 := hT.f1
  have o2 := hT.f2
  have HS : Hid (∀ X : World, Calls Try.prog 11 #[tm F, tv 0 0] X fun e w' => e = .returned (.int .i64 F) ∧ Below X.heap.size X w') := fun X => subZero F X (by omega) (by omega)
  go_enter Try.func7, Try.ntmps7
  go_wp2_with fail
  go_region_held3 (fun x => x.cell? ⟨b, 2, none⟩ = some (.int .u64 (F % 1000000000)) ∧ x.cell? ⟨b, 3, none⟩ = some (.int .i64 (F / 1000000000)) ∧ x.cell? ⟨b, 4, none⟩ = some (.pointer none) ∧ x.cell? ⟨w.heap.size, 0, none⟩ = some (.int .u64 0) ∧ x.cell? ⟨w.heap.size, 1, none⟩ = some (.int .i64 0) ∧ x.cell? ⟨w.heap.size, 2, none⟩ = some (.pointer none))
    (first | (go_split_ands; (repeat' apply And.intro) <;> (refine cell_later hb2 ?_; assumption)) | (go_split_ands; (repeat' apply And.intro) <;> assumption) | ((repeat' apply And.intro) <;> go_simp))
    (first | (go_at_call 11; refine (HS.out _).mono ?_; rintro e w2 ⟨rfl, hb2⟩))
  go_wp2_with fail
  go_ret
  exact ⟨rfl, (((Below.refl w.heap.size w).alloc (Nat.le_refl _) _).drew).trans (hb2.mono (by simp))⟩

theorem TL_new (X : World) (I S F O W G : Int) : TL (X.alloc (.cells #[.int .i64 I, .int .i64 S, .int .u64 (F % 1000000000), .int .i64 (F / 1000000000), .pointer none, .int .u64 (O % 1000000000), .int .i64 (O / 1000000000), .pointer none, .int .u64 (O % 1000000000), .int .i64 (O / 1000000000), .pointer none, .int .i64 W, .int .u64 0, .int .i64 0, .pointer none, .slice none 0 0, .int .i64 G] 35)) X.heap.size I S F O W 0 G (.slice none 0 0) := by
  have e := fun i => World.cell?_alloc_at (w := X) #[.int .i64 I, .int .i64 S, .int .u64 (F % 1000000000), .int .i64 (F / 1000000000), .pointer none, .int .u64 (O % 1000000000), .int .i64 (O / 1000000000), .pointer none, .int .u64 (O % 1000000000), .int .i64 (O / 1000000000), .pointer none, .int .i64 W, .int .u64 0, .int .i64 0, .pointer none, .slice none 0 0, .int .i64 G] 35 X.heap.size i rfl
  exact ⟨e 0, e 1, e 2, e 3, e 4, e 5, e 6, e 7, e 11, e 12, e 13, e 14, e 15, e 16, fun i => World.frozen?_alloc_at _ _ _ _ rfl⟩

set_option maxHeartbeats 2000000 in
set_option maxRecDepth 100000 in
theorem new4 (I S F O W G : Int) (w : World) (h1 : 0 ≤ F) (h2 : F ≤ 1200000000000000000) (h3 : 0 ≤ O) (h4 : O ≤ 1200000000000000000) :
    Calls Try.prog 4 #[.int .i64 I, .int .i64 S, .int .i64 F, .int .i64 O, .int .i64 W, .int .i64 G] w fun e w' => ∃ b, e = .returned (.pointer (some ⟨b, 0, none⟩)) ∧ w.heap.size ≤ b ∧ TL w' b I S F O W 0 G (.slice none 0 0) ∧ Below w.heap.size w w' := by
  have HF : Hid (∀ X : World, Calls Try.prog 9 #[tv 0 0, .int .i64 F] X fun e w' => e = .returned (tm F) ∧ Below X.heap.size X w') := fun X => addZero F X (by omega) (by omega)
  have HO : Hid (∀ X : World, Calls Try.prog 9 #[tv 0 0, .int .i64 O] X fun e w' => e = .returned (tm O) ∧ Below X.heap.size X w') := fun X => addZero O X (by omega) (by omega)
  go_enter Try.func4, Try.ntmps4
  go_wp2_with fail
  go_region_held3 (fun x => Below w.heap.size w x ∧ x.cell? ⟨w.heap.size, 0, none⟩ = some (.int .u64 0) ∧ x.cell? ⟨w.heap.size, 1, none⟩ = some (.int .i64 0) ∧ x.cell? ⟨w.heap.size, 2, none⟩ = some (.pointer none))
    (first | (exact ⟨((Below.refl w.heap.size w).alloc (Nat.le_refl _) _).drew, by go_simp, by go_simp, by go_simp⟩) | (go_split_ands; exact ⟨Below.trans (by assumption) (hbq.mono (Below.size (by assumption))), cell_later hbq (by assumption), cell_later hbq (by assumption), cell_later hbq (by assumption)⟩) | (go_split_ands; exact ⟨Below.alloc (by assumption) (Below.size (by assumption)) _, cell_later ((Below.refl _ _).alloc (Nat.le_refl _) _) (by assumption), cell_later ((Below.refl _ _).alloc (Nat.le_refl _) _) (by assumption), cell_later ((Below.refl _ _).alloc (Nat.le_refl _) _) (by assumption)⟩) | (go_split_ands; (repeat' apply And.intro) <;> assumption))
    (first | (go_at_call_of 9 (Value.int IntKind.i64 F); refine (HF.out _).mono ?_; rintro e wq ⟨rfl, hbq⟩) | (go_at_call_of 9 (Value.int IntKind.i64 O); refine (HO.out _).mono ?_; rintro e wq ⟨rfl, hbq⟩))
  rename_i hHeld
  obtain ⟨hbel, hc0, _⟩ := hHeld
  have hlt := World.block_lt_of_cell? _ _ hc0
  simp at hlt
  clear hc0
  go_wp2_with fail
  go_ret
  exact ⟨_, rfl, by omega, TL_new _ I S F O W G, hbel⟩
end Go.Proofs.Qxb6614268a
