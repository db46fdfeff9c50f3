import Derived.Test.Qxb6614323aUnits
import Derived.Deep.RegionWith
namespace Go.Proofs.Qxb6614323a
open Go.RowKit
set_option linter.unusedVariables false

set_option maxHeartbeats 2000000 in
set_option maxRecDepth 100000 in
theorem main (nb no n cap : Nat) (xs : Nat → ByteArray) (cut : Int) (w : World) (hpos : 0 < n) (hcap : n ≤ cap) (hcm : cap ≤ maxLen) (hs : ∀ i, (xs i).size ≤ maxLen) (hc : ∀ i, i < n → w.cell? ⟨nb, no + i, none⟩ = some (.string (xs i))) :
    Calls Try.prog 3 #[.slice (some ⟨nb, no, none⟩) n cap, .int .i64 cut] w fun e w' => e = .returned (.bool true) ∧ Below w.heap.size w w' := by
  have hcm' := hcm
  unfold maxLen at hcm'
  go_enter Try.func3, Try.ntmps3
  go_wp2_with fail
  refine (bytes4 nb no n cap xs cut _ (by omega) hs hc).mono ?_
  rintro e w' ⟨⟨b, rfl⟩, rfl⟩
  cases b
  · go_wp2_with fail
    go_ret
    exact ⟨rfl, Below.refl _ _⟩
  by_cases hn : 65536 < n
  · go_wp2_with fail
    go_ret
    exact ⟨rfl, Below.refl _ _⟩
  go_wp2_with fail
  refine (big5 nb no n cap xs _ (by omega) hs hc).mono ?_
  rintro e w1 ⟨⟨b, rfl⟩, rfl⟩
  cases b
  rotate_left
  · go_wp2_with fail
    go_ret
    exact ⟨rfl, Below.refl _ _⟩
  by_cases hc0 : cut < 0
  · go_wp2_with fail
    go_ret
    exact ⟨rfl, Below.refl _ _⟩
  by_cases hc1 : (n : Int) < cut
  · go_wp2_with fail
    go_ret
    exact ⟨rfl, Below.refl _ _⟩
  obtain ⟨c, rfl⟩ := Int.eq_ofNat_of_zero_le (show 0 ≤ cut by omega)
  have hcn : c ≤ n := by omega
  clear hs hc0 hc1
  go_wp2_with fail
  refine (new6 _).mono ?_
  rintro e w2 ⟨p, rfl, hb2⟩
  have hcn' : (c : Int) ≤ (n : Int) := by omega
  have hcc' : (c : Int) ≤ (cap : Int) := by omega
  have hnc' : (n : Int) ≤ (cap : Int) := by omega
  go_wp2_with fail
  refine (units7 _ nb no n cap xs _ (by omega) (fun i hi => cell_later hb2 (hc i hi))).mono ?_
  rintro e w3 ⟨g1, rfl, u1, hb3⟩
  replace hb3 := hb2.trans (hb3.mono hb2.size)
  clear hb2
  go_wp2_with fail
  refine (units7 _ nb no c cap xs _ (by omega) (fun i hi => cell_later hb3 (hc i (by omega)))).mono ?_
  rintro e w4 ⟨g2, rfl, u2, hb4⟩
  replace u1 := u1.later hb4
  replace hb4 := hb3.trans (hb4.mono hb3.size)
  clear hb3
  go_wp2_with fail
  all_goals
    first
      | (go_at_call_of 7 (Value.slice (some ⟨nb, no, none⟩) (n - c) 0); refine (units7 _ nb no (n - c) _ (fun i => xs (c + i)) _ (by omega) (fun i hi => absurd hi (by omega))).mono ?_)
      | refine (units7 _ nb (no + c) (n - c) _ (fun i => xs (c + i)) _ (by omega) (fun i hi => by rw [Nat.add_assoc]; exact cell_later hb4 (hc (c + i) (by omega)))).mono ?_
    rintro e w5 ⟨g3, rfl, u3, hb5⟩
    replace u1 := u1.later hb5
    replace u2 := u2.later hb5
    replace hb5 := hb4.trans (hb5.mono hb4.size)
    clear hb4
    have ecn : ((n - c : Nat) : Int) = (n : Int) - (c : Int) := by omega
    have hq : (((n - c : Nat) : Int) != (n : Int) - (c : Int)) = false := by rw [ecn]; simp
    clear ecn
    go_wp2_with fail
    go_loopw [9, 10] (fun i s w' => ∃ k : Nat, k ≤ n ∧ i = .int .i64 k ∧ Below w5.heap.size w5 w') (fun i _ _ => n - (intOf i).toNat)
    case atStart => exact ⟨0, Nat.zero_le _, rfl, Below.refl _ _⟩
    case round =>
      obtain ⟨k, hk, rfl, hbr⟩ := hrel
      by_cases hlt : k < n
      · have hlt' : (k : Int) < (n : Int) := by omega
        obtain ⟨a1, p1, p2⟩ := (u1.later hbr) k hlt
        have hname := cell_later (hb5.trans (hbr.mono hb5.size)) (hc k hlt)
        by_cases hkc : k < c
        · have hkc' : (k : Int) < (c : Int) := by omega
          obtain ⟨a2, q1, q2⟩ := (u2.later hbr) k hkc
          clear hq hc u1 u2 u3
          go_wp2_with fail
          refine (same8 a1 a2 (xs k) _ p2 q2).mono ?_
          rintro e w6 ⟨rfl, hb6⟩
          replace p1 := cell_later hb6 p1
          replace p2 := cell_later hb6 p2
          replace hname := cell_later hb6 hname
          replace hbr := hbr.trans (hb6.mono hbr.size)
          clear q1 q2 hb6
          generalize xs k = x at *
          go_wp2_with fail
          go_quiet (fail)
          go_wp2_with fail
          go_roundw
          case rel => exact ⟨k + 1, by omega, by go_num, below_drewN hbr _⟩
          case measure => simp [intOf]; omega
        · have hkc' : (c : Int) ≤ (k : Int) := by omega
          obtain ⟨a2, q1, q2⟩ := (u3.later hbr) (k - c) (by omega)
          simp only [show c + (k - c) = k by omega] at q2
          have ek : ((k : Int) - (c : Int)).toNat = k - c := by omega
          have ek1 : (k : Int) - (c : Int) < ((n - c : Nat) : Int) := by omega
          have ek2 : 0 ≤ (k : Int) - (c : Int) := by omega
          clear hq hc u1 u2 u3
          go_wp2_with fail
          refine (same8 a1 a2 (xs k) _ p2 q2).mono ?_
          rintro e w6 ⟨rfl, hb6⟩
          replace p1 := cell_later hb6 p1
          replace p2 := cell_later hb6 p2
          replace hname := cell_later hb6 hname
          replace hbr := hbr.trans (hb6.mono hbr.size)
          clear q1 q2 hb6
          generalize xs k = x at *
          go_wp2_with fail
          go_quiet (fail)
          go_wp2_with fail
          go_roundw
          case rel => exact ⟨k + 1, by omega, by go_num, below_drewN hbr _⟩
          case measure => simp [intOf]; omega
      · go_wp2_with fail
        go_ret
        exact ⟨rfl, hb5.trans (hbr.mono hb5.size)⟩

set_option maxHeartbeats 2000000 in
set_option maxRecDepth 100000 in
theorem main0 (a : Option Addr) (cap : Nat) (cut : Int) (w : World) (ha : a = none → cap = 0) (hcm : cap ≤ maxLen) :
    Calls Try.prog 3 #[.slice a 0 cap, .int .i64 cut] w fun e w' => e = .returned (.bool true) ∧ Below w.heap.size w w' := by
  have hcm' := hcm
  unfold maxLen at hcm'
  by_cases hc0 : cut < 0 ∨ 0 < cut
  · go_enter Try.func3, Try.ntmps3
    go_wp2_with fail
    refine (bytes4z a cap cut _).mono ?_
    rintro e w' ⟨⟨b, rfl⟩, rfl⟩
    cases b
    · go_wp2_with fail
      go_ret
      exact ⟨rfl, Below.refl _ _⟩
    go_wp2_with fail
    refine (big5z a cap _).mono ?_
    rintro e w1 ⟨rfl, rfl⟩
    rcases hc0 with hc0 | hc0
    · go_wp2_with fail
      go_ret
      exact ⟨rfl, Below.refl _ _⟩
    · go_wp2_with fail
      go_ret
      exact ⟨rfl, Below.refl _ _⟩
  · obtain rfl : cut = 0 := by omega
    cases a with
    | none =>
      obtain rfl := ha rfl
      clear ha hcm hcm' hc0
      go_enter Try.func3, Try.ntmps3
      go_wp2_with fail
      refine (bytes4z none 0 0 _).mono ?_
      rintro e w' ⟨⟨b, rfl⟩, rfl⟩
      cases b
      · go_wp2_with fail
        go_ret
        exact ⟨rfl, Below.refl _ _⟩
      go_wp2_with fail
      refine (big5z none 0 _).mono ?_
      rintro e w1 ⟨rfl, rfl⟩
      go_wp2_with fail
      refine (new6 _).mono ?_
      rintro e w2 ⟨p, rfl, hb2⟩
      go_wp2_with fail
      refine (units7z _ none 0 (fun _ => ByteArray.empty) _).mono ?_
      rintro e w3 ⟨g1, rfl, u1, hb3⟩
      go_wp2_with fail
      refine (units7z _ none 0 (fun _ => ByteArray.empty) _).mono ?_
      rintro e w4 ⟨g2, rfl, u2, hb4⟩
      go_wp2_with fail
      refine (units7z _ none 0 (fun _ => ByteArray.empty) _).mono ?_
      rintro e w5 ⟨g3, rfl, u3, hb5⟩
      go_wp2_with fail
      refine wp_loop_rounds 1 ?_
      rw [rounds_succ]
      go_wp2_with fail
      go_ret
      exact ⟨rfl, ((hb2.trans (hb3.mono hb2.size)).trans (hb4.mono (by have := hb2.size; have := hb3.size; omega))).trans (hb5.mono (by have := hb2.size; have := hb3.size; have := hb4.size; omega))⟩
    | some x =>
      clear ha
      go_enter Try.func3, Try.ntmps3
      go_wp2_with fail
      refine (bytes4z (some x) cap 0 _).mono ?_
      rintro e w' ⟨⟨b, rfl⟩, rfl⟩
      cases b
      · go_wp2_with fail
        go_ret
        exact ⟨rfl, Below.refl _ _⟩
      go_wp2_with fail
      refine (big5z (some x) cap _).mono ?_
      rintro e w1 ⟨rfl, rfl⟩
      go_wp2_with fail
      refine (new6 _).mono ?_
      rintro e w2 ⟨p, rfl, hb2⟩
      go_wp2_with fail
      refine (units7z _ (some x) cap (fun _ => ByteArray.empty) _).mono ?_
      rintro e w3 ⟨g1, rfl, u1, hb3⟩
      go_wp2_with fail
      refine (units7z _ (some x) cap (fun _ => ByteArray.empty) _).mono ?_
      rintro e w4 ⟨g2, rfl, u2, hb4⟩
      go_wp2_with fail
      refine (units7z _ (some x) cap (fun _ => ByteArray.empty) _).mono ?_
      rintro e w5 ⟨g3, rfl, u3, hb5⟩
      go_wp2_with fail
      refine wp_loop_rounds 1 ?_
      rw [rounds_succ]
      go_wp2_with fail
      go_ret
      exact ⟨rfl, ((hb2.trans (hb3.mono hb2.size)).trans (hb4.mono (by have := hb2.size; have := hb3.size; omega))).trans (hb5.mono (by have := hb2.size; have := hb3.size; have := hb4.size; omega))⟩
end Go.Proofs.Qxb6614323a
