/-
  SEAT b6619060a: THE CONTRACT OF splits: some number.
-/
import Derived.Test.Qxb6619060aArcs
namespace Go.Proofs.Qxb6619060a
open Go.RowKit

/-- n pairs of int64 lie at ao -/
def LiesP (w : World) (ao : Option Addr) (n : Nat) : Prop :=
  ∀ j, j < n → ∃ b z1 z2, ao = some ⟨b, 0, none⟩ ∧ w.cell? ⟨b, j * 2, none⟩ = some (.int .i64 z1) ∧ w.cell? ⟨b, j * 2 + 1, none⟩ = some (.int .i64 z2)
theorem LiesP.below {w w' : World} {ao : Option Addr} {n : Nat} (h : LiesP w ao n) (hb : Below w.heap.size w w') : LiesP w' ao n := by
  intro j hj
  obtain ⟨b, z1, z2, e, h1, h2⟩ := h j hj
  exact ⟨b, z1, z2, e, by rw [hb.cell (block_lt_of_cell h1)]; exact h1, by rw [hb.cell (block_lt_of_cell h2)]; exact h2⟩
theorem OwnP.lies {B : Nat} {v : Value} {n : Nat} {w : World} (h : OwnP B v n w) : ∃ ao cap, v = .slice ao n cap ∧ n ≤ cap ∧ LiesP w ao n := by
  obtain ⟨xs, ⟨hl, h⟩, hall⟩ := h
  rcases h with ⟨rfl, rfl⟩ | ⟨g, cap, cur, rfl, _, hh, hle, _, hcs, htk⟩
  · exact ⟨none, 0, rfl, Nat.le_refl _, fun j hj => by omega⟩
  · refine ⟨_, cap, rfl, hle, fun j hj => ?_⟩
    have key : ∀ i, i < n * 2 → ∃ z : Int, w.cell? ⟨g, i, none⟩ = some (.int .i64 z) := by
      intro i hi
      obtain ⟨z, e⟩ := hall.get i (by omega)
      refine ⟨z, ?_⟩
      rw [cell_of_row w g i _ 52 _ hh]
      rw [← htk, List.getElem?_take_of_lt hi] at e
      simpa using e
    obtain ⟨z1, e1⟩ := key (j * 2) (by omega)
    obtain ⟨z2, e2⟩ := key (j * 2 + 1) (by omega)
    exact ⟨g, z1, z2, rfl, e1, e2⟩

set_option maxHeartbeats 400000 in
theorem wrap_some (v S : Int) (w : World) :
    Calls Try.prog 23 #[.int .i64 v, .int .i64 S] w fun e w' => (∃ r : Int, e = .returned (.int .i64 r)) ∧ w' = w := by
  go_enter Try.func23, Try.ntmps23
  go_wp2
  all_goals
    go_ret
    exact ⟨⟨_, rfl⟩, rfl⟩

set_option maxRecDepth 100000 in
set_option maxHeartbeats 2000000 in
theorem splits_any (ao : Option Addr) (n ca : Nat) (wt m o : Int) (w : World) (hp : LiesP w ao n) (hn : n ≤ 131072) (_hca : n ≤ ca) (h1 : 1 ≤ m) (h2 : m ≤ 2147483646) :
    Calls Try.prog 16 #[.agg #[.int .u64 wt, .int .u64 m, .int .i64 o], .slice ao n ca] w fun e w' => ∃ r : Int, e = .returned (.int .i64 r) ∧ Below w.heap.size w w' := by
  go_enter Try.func16, Try.ntmps16
  go_wp2_with (go_at_call 22; refine (span_any _ _ _ _ h1 h2).mono ?_; rintro e w' ⟨rfl, rfl⟩)
  go_loopw [5, 15] (fun z i wr => ∃ (k : Nat) (Z : Int), k ≤ n ∧ i = .int .i64 k ∧ z = .int .i64 Z ∧ Below (w.heap.size + 1) (w.alloc (.cells #[.int .u64 wt, .int .u64 m, .int .i64 o] 42)) wr) (fun _ i _ => n - (intOf i).toNat)
  case atStart => exact ⟨0, 0, by omega, rfl, rfl, (Below.refl _ _).alloc (by simp) _⟩
  case round =>
    obtain ⟨k, Z, hk, rfl, rfl, hB⟩ := hrel
    have hBw : Below w.heap.size w wr := ((Below.refl _ _).alloc (Nat.le_refl _) _).trans (hB.mono (by omega))
    have hsz := hB.size
    simp only [World.size_alloc] at hsz
    have HB : Hid (wr.heap[w.heap.size]? = some (.cells #[.int .u64 wt, .int .u64 m, .int .i64 o] 42 (0, 0))) := (hB.block _ (by omega)).trans (heap_alloc_new _ _)
    by_cases hlt : k < n
    · have c0 : wr.cell? ⟨w.heap.size, 0, none⟩ = some (.int .u64 wt) := cell_of_row wr _ 0 _ _ _ HB.out
      have c1 : wr.cell? ⟨w.heap.size, 1, none⟩ = some (.int .u64 m) := cell_of_row wr _ 1 _ _ _ HB.out
      have c2 : wr.cell? ⟨w.heap.size, 2, none⟩ = some (.int .i64 o) := cell_of_row wr _ 2 _ _ _ HB.out
      obtain ⟨b, z1, z2, rfl, p1, p2⟩ := hp.below hBw k hlt
      have hltI : (k : Int) < (n : Int) := by omega
      have hlB := blk_lt HB.out
      go_wp2_with (go_at_call 23; refine (wrap_some _ _ _).mono ?_; rintro e w' ⟨⟨r, rfl⟩, rfl⟩)
      all_goals
        go_roundw
        case rel => exact ⟨k + 1, _, by omega, by go_num, rfl, hB.alloc hsz _⟩
        case measure => simp [intOf]; omega
    · go_wp2
      go_ret
      exact ⟨_, rfl, hBw⟩
end Go.Proofs.Qxb6619060a
