import Derived.Test.Qxb6614224aKit
import Derived.Deep.RegionWith
namespace Go.Proofs.Qxb6614224a
open Go.RowKit
theorem below_set2 {B : Nat} {a b : World} (h : Below B a b) (p : Addr) (v : Value) : Below B (a.setCell p v) (b.setCell p v) := by
  refine ⟨h.os, h.tape, h.output, by simpa [World.setCell] using h.size, fun k hk => ?_⟩
  simp only [World.setCell, Array.getElem?_modify]
  rw [h.block k hk]

set_option maxHeartbeats 400000 in
theorem clo26 (o : ByteArray) (b7 b : Nat) (w : World) (h7 : w.cell? ⟨b7, 0, none⟩ = some fld) (ho : w.cell? ⟨b, 9, none⟩ = some (.string o)) :
    Calls Try.prog 26 #[.pointer (some ⟨b, 0, none⟩), .pointer (some ⟨b7, 0, none⟩)] w fun e w' => e = .returned (.slice (some ⟨w.heap.size, 0, none⟩) 1 1) ∧ w.alloc (.cells #[.string ⟨#[]⟩, .string o, .string ⟨#[]⟩] 36) = w' := by
  go_enter Try.func26, Try.ntmps26
  go_wp2_with fail
  refine (fld20 b _).mono ?_
  rintro e w' ⟨rfl, rfl⟩
  go_wp2_with fail
  go_ret
  exact ⟨rfl, rfl⟩

set_option maxHeartbeats 400000 in
theorem clo27e (f s m : ByteArray) (b6 b7 b : Nat) (w : World) (h6 : w.cell? ⟨b6, 0, none⟩ = some (.string m)) (hb6 : b6 < w.heap.size) :
    Calls Try.prog 27 #[.pointer (some ⟨b, 0, none⟩), .agg #[.string f, .string ⟨#[]⟩, .string s], .pointer (some ⟨b6, 0, none⟩), .pointer (some ⟨b7, 0, none⟩)] w fun e w' => (∃ c, e = .returned (.iface 70 (.pointer (some c)))) ∧ Below w.heap.size w w' := by
  go_enter Try.func27, Try.ntmps27
  go_wp2_with fail
  refine (err28 m _).mono ?_
  rintro e w' ⟨rfl, hb⟩
  go_wp2_with fail
  go_ret
  exact ⟨⟨_, rfl⟩, ((Below.refl _ _).alloc (Nat.le_refl _) _).trans (hb.mono (by simp))⟩

set_option maxHeartbeats 400000 in
theorem clo27v (f v s o : ByteArray) (b6 b7 b : Nat) (w : World) (hv : v.toList.isEmpty = false) (h7 : w.cell? ⟨b7, 0, none⟩ = some fld) (ho : w.cell? ⟨b, 9, none⟩ = some (.string o)) (hf : w.frozen? ⟨b, 9, none⟩ = false) (hb : b < w.heap.size) (hb7 : b7 < w.heap.size) :
    Calls Try.prog 27 #[.pointer (some ⟨b, 0, none⟩), .agg #[.string f, .string v, .string s], .pointer (some ⟨b6, 0, none⟩), .pointer (some ⟨b7, 0, none⟩)] w fun e w' => e = .returned .nilIface ∧ Below w.heap.size (w.setCell ⟨b, 9, none⟩ (.string v)) w' := by
  go_enter Try.func27, Try.ntmps27
  go_wp2_with fail
  go_region_with (go_at_call 20; refine (fld20 b _).mono ?_; rintro e w' ⟨rfl, rfl⟩)
  all_goals
    go_wp2
    go_ret
    exact ⟨rfl, ((Below.refl _ _).alloc (by simp [World.setCell]) _).drew⟩

set_option maxHeartbeats 400000 in
theorem hdr8 (n : ByteArray) (s : Int) (b6 b7 : Nat) (w : World) :
    Calls Try.prog 8 #[item n s b6 b7, .string n, .int .i64 s] w fun e w' => e = .returned (.bool true) ∧ Below w.heap.size w w' := by
  go_enter Try.func8, Try.ntmps8
  go_wp2_with fail
  refine (head21 n s b6 b7 _).mono ?_
  rintro e w' ⟨rfl, hb⟩
  go_wp2_with fail
  go_ret
  exact ⟨rfl, ((Below.refl _ _).alloc (Nat.le_refl _) _).trans (hb.mono (by simp))⟩

set_option maxHeartbeats 400000 in
theorem lines10 (n o : ByteArray) (s : Int) (b6 b7 b : Nat) (w : World) (h7 : w.cell? ⟨b7, 0, none⟩ = some fld) (ho : w.cell? ⟨b, 9, none⟩ = some (.string o)) (hb7 : b7 < w.heap.size) (hb : b < w.heap.size) :
    Calls Try.prog 10 #[item n s b6 b7, .pointer (some ⟨b, 0, none⟩)] w fun e w' => e = .returned (.slice (some ⟨w.heap.size + 1, 0, none⟩) 1 1) ∧ w'.cell? ⟨w.heap.size + 1, 0, none⟩ = some (.string ⟨#[]⟩) ∧ w'.cell? ⟨w.heap.size + 1, 1, none⟩ = some (.string o) ∧ w'.cell? ⟨w.heap.size + 1, 2, none⟩ = some (.string ⟨#[]⟩) ∧ w.heap.size + 1 < w'.heap.size ∧ Below w.heap.size w w' := by
  go_enter Try.func10, Try.ntmps10
  go_wp2_with fail
  refine (clo26 o b7 b _ ?_ ?_).mono ?_
  · go_simp
  · go_simp
  rintro e w' ⟨rfl, rfl⟩
  go_wp2_with fail
  go_ret
  exact ⟨rfl, by simp [go_sem], by simp [go_sem], by simp [go_sem], by simp, ((Below.refl _ _).alloc (Nat.le_refl _) _).alloc (by simp) _⟩

set_option maxHeartbeats 400000 in
theorem read13e (n f m t : ByteArray) (s : Int) (b6 b7 b : Nat) (w : World) (h6 : w.cell? ⟨b6, 0, none⟩ = some (.string m)) (hb6 : b6 < w.heap.size) :
    Calls Try.prog 13 #[item n s b6 b7, .pointer (some ⟨b, 0, none⟩), .agg #[.string f, .string ⟨#[]⟩, .string t]] w fun e w' => (∃ c, e = .returned (.iface 70 (.pointer (some c)))) ∧ Below w.heap.size w w' := by
  go_enter Try.func13, Try.ntmps13
  go_wp2_with fail
  refine (clo27e f t m b6 b7 b _ ?_ ?_).mono ?_
  · go_simp
  · simp; omega
  rintro e w' ⟨⟨c, rfl⟩, hb⟩
  go_wp2_with fail
  go_ret
  exact ⟨⟨_, rfl⟩, (((Below.refl _ _).alloc (Nat.le_refl _) _).alloc (by simp) _).trans (hb.mono (by simp; omega))⟩

set_option maxHeartbeats 400000 in
theorem read13v (n f v t o : ByteArray) (s : Int) (b6 b7 b : Nat) (w : World) (hv : v.toList.isEmpty = false) (h7 : w.cell? ⟨b7, 0, none⟩ = some fld) (ho : w.cell? ⟨b, 9, none⟩ = some (.string o)) (hf : w.frozen? ⟨b, 9, none⟩ = false) (hb : b < w.heap.size) (hb7 : b7 < w.heap.size) :
    Calls Try.prog 13 #[item n s b6 b7, .pointer (some ⟨b, 0, none⟩), .agg #[.string f, .string v, .string t]] w fun e w' => e = .returned .nilIface ∧ Below w.heap.size (w.setCell ⟨b, 9, none⟩ (.string v)) w' := by
  go_enter Try.func13, Try.ntmps13
  go_wp2_with fail
  refine (clo27v f v t o b6 b7 b _ hv ?_ ?_ ?_ ?_ ?_).mono ?_
  · go_simp
  · go_simp
  · go_simp
  · simp; omega
  · simp; omega
  rintro e w' ⟨rfl, hb'⟩
  go_wp2_with fail
  go_ret
  exact ⟨rfl, (below_set2 (((Below.refl w.heap.size w).alloc (Nat.le_refl _) _).alloc (by simp) _) _ _).trans (hb'.mono (by simp; omega))⟩
end Go.Proofs.Qxb6614224a
