/-
  SEAT b6619060a: THE CONTRACTS OF place, skipTo, placeAt.
-/
import Derived.Test.Qxb6619060aDist
import Derived.BigRegion
import Derived.RegionTactic
import Derived.ChangeAlike
namespace Go.Proofs.Qxb6619060a
open Go.RowKit

set_option maxHeartbeats 1000000 in
theorem skipTo_any (bt : Nat) (W a b c n : Int) (w : World) (hh : w.heap[bt]? = some (.cells #[.int .u64 W, .int .u64 a, .int .u64 b, .int .u64 c] 54 (0, 0))) (hW : 1 ≤ W) :
    Calls Try.prog 24 #[.pointer (some ⟨bt, 0, none⟩), .int .u64 n] w fun e w' => e = .returned (.tuple #[]) ∧ (∃ a' b' c', w'.heap[bt]? = some (.cells #[.int .u64 W, .int .u64 a', .int .u64 b', .int .u64 c'] 54 (0, 0))) ∧ Below bt w w' := by
  have c0 : w.cell? ⟨bt, 0, none⟩ = some (.int .u64 W) := cell_of_row w _ 0 _ _ _ hh
  have c1 : w.cell? ⟨bt, 1, none⟩ = some (.int .u64 a) := cell_of_row w _ 1 _ _ _ hh
  have c2 : w.cell? ⟨bt, 2, none⟩ = some (.int .u64 b) := cell_of_row w _ 2 _ _ _ hh
  have c3 : w.cell? ⟨bt, 3, none⟩ = some (.int .u64 c) := cell_of_row w _ 3 _ _ _ hh
  have f1 : w.frozen? ⟨bt, 1, none⟩ = false := frozen_of_row w _ 1 _ _ hh
  have f2 : w.frozen? ⟨bt, 2, none⟩ = false := frozen_of_row w _ 2 _ _ hh
  have f3 : w.frozen? ⟨bt, 3, none⟩ = false := frozen_of_row w _ 3 _ _ hh
  have hW0 : (W == 0) = false := by rw [beq_eq_false_iff_ne]; omega
  have HH : Hid (w.heap[bt]? = some (.cells #[.int .u64 W, .int .u64 a, .int .u64 b, .int .u64 c] 54 (0, 0))) := hh
  clear hh
  go_enter Try.func24, Try.ntmps24
  go_wp2
  go_region
  go_wp2
  go_region
  go_wp2
  go_end0
  refine ⟨rfl, ⟨_, _, _, heap_setCell_same _ _ 3 _ 54 _ (heap_setCell_same _ _ 2 _ 54 _ (heap_setCell_same _ _ 1 _ 54 _ HH.out))⟩, ?_⟩
  repeat apply Below.drew
  exact ((((Below.refl _ _).setCell (p := ⟨bt, 1, none⟩) (Nat.le_refl _) _).setCell (p := ⟨bt, 2, none⟩) (Nat.le_refl _) _).setCell (p := ⟨bt, 3, none⟩) (Nat.le_refl _) _)

set_option maxHeartbeats 1000000 in
theorem placeAt_any (bt : Nat) (W a b c n : Int) (w : World) (hh : w.heap[bt]? = some (.cells #[.int .u64 W, .int .u64 a, .int .u64 b, .int .u64 c] 54 (0, 0))) (hW : 1 ≤ W) :
    Calls Try.prog 20 #[.pointer (some ⟨bt, 0, none⟩), .int .u64 n] w fun e w' => e = .returned (.tuple #[]) ∧ (∃ a' b' c', w'.heap[bt]? = some (.cells #[.int .u64 W, .int .u64 a', .int .u64 b', .int .u64 c'] 54 (0, 0))) ∧ Below bt w w' := by
  have c0 : w.cell? ⟨bt, 0, none⟩ = some (.int .u64 W) := cell_of_row w _ 0 _ _ _ hh
  have c1 : w.cell? ⟨bt, 1, none⟩ = some (.int .u64 a) := cell_of_row w _ 1 _ _ _ hh
  have f1 : w.frozen? ⟨bt, 1, none⟩ = false := frozen_of_row w _ 1 _ _ hh
  have hW0 : (W == 0) = false := by rw [beq_eq_false_iff_ne]; omega
  have HH : Hid (w.heap[bt]? = some (.cells #[.int .u64 W, .int .u64 a, .int .u64 b, .int .u64 c] 54 (0, 0))) := hh
  clear hh
  go_enter Try.func20, Try.ntmps20
  go_wp2
  go_region
  go_wp2_with (go_at_call 24; refine (skipTo_any bt W _ b c _ _ (by exact heap_setCell_same _ _ 1 _ 54 _ HH.out) hW).mono ?_; rintro e w1 ⟨rfl, hh1, hb1⟩)
  go_end0
  exact ⟨rfl, hh1, (((Below.refl _ _).setCell (p := ⟨bt, 1, none⟩) (Nat.le_refl _) _).drew).trans hb1⟩

set_option maxHeartbeats 1000000 in
theorem place_any (wt m o k : Int) (w : World) (h1 : 1 ≤ m) (h2 : m ≤ 2147483646) :
    Calls Try.prog 21 #[.agg #[.int .u64 wt, .int .u64 m, .int .i64 o], .int .u64 k] w fun e w' => ∃ r : Int, e = .returned (.int .u64 r) ∧ Below w.heap.size w w' := by
  go_enter Try.func21, Try.ntmps21
  go_wp2
  go_ret
  exact ⟨_, rfl, (Below.refl _ _).alloc (Nat.le_refl _) _⟩

end Go.Proofs.Qxb6619060a
