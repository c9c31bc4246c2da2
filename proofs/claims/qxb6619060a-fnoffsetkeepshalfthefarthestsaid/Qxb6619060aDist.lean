/-
  SEAT b6619060a: THE CONTRACTS OF zzDist AND distance.
-/
import Derived.Test.Qxb6619060aLeaves
namespace Go.Proofs.Qxb6619060a
open Go.RowKit

/-- WHERE A SLICE OF uint64 LIES. -/
def Lies (w : World) (ao : Option Addr) (l : List Int) : Prop :=
  ∀ j, j < l.length → ∃ b off, ao = some ⟨b, off, none⟩ ∧ w.cell? ⟨b, off + j, none⟩ = some (.int .u64 (l.getD j 0))

theorem Lies.nil (w : World) (ao : Option Addr) : Lies w ao [] := by simp [Lies]
theorem Lies.below {w w' : World} {ao : Option Addr} {l : List Int} (h : Lies w ao l) (hb : Below w.heap.size w w') : Lies w' ao l := by
  intro j hj
  obtain ⟨b, off, e, hc⟩ := h j hj
  exact ⟨b, off, e, by rw [hb.cell (block_lt_of_cell hc)]; exact hc⟩
theorem Lies.tick {w : World} {ao : Option Addr} {l : List Int} (h : Lies w ao l) (j : Nat) (hj : j < l.length) :
    ∃ b off x, ao = some ⟨b, off, none⟩ ∧ w.cell? ⟨b, off + j, none⟩ = some (.int .u64 x) ∧ x = l.getD j 0 ∧ x ∈ l := by
  obtain ⟨b, off, e, hc⟩ := h j hj
  refine ⟨b, off, _, e, hc, rfl, ?_⟩
  rw [show l.getD j 0 = l[j] by simp [List.getD, hj]]; exact List.getElem_mem hj

theorem valI {a b : Int} {k : IntKind} (h : a = b) : Value.int k a = Value.int k b := by rw [h]

set_option maxHeartbeats 2000000 in
theorem zzDist_any (ao : Option Addr) (cap : Nat) (l : List Int) (wt m o : Int) (w : World) (hc : Lies w ao l) (hl : l.length ≤ 131072) (hx : ∀ x ∈ l, 0 ≤ x ∧ x < 4294967296)
    (h1 : 1 ≤ m) (h2 : m ≤ 2147483646) (h3 : 1 ≤ wt) (h4 : wt ≤ 65536) (h5 : -4294967296 < o) (h6 : o < 4294967296) :
    Calls Try.prog 10 #[.slice ao l.length cap, .int .u64 wt, .int .u64 m, .int .i64 o] w fun e w' => e = .returned (.int .i64 (D wt m o l)) ∧ w' = w := by
  go_enter Try.func10, Try.ntmps10
  go_wp2
  go_loop [10, 23] (fun a i => ∃ k : Nat, k ≤ l.length ∧ i = .int .i64 k ∧ a = .int .i64 (D wt m o (l.take k))) (fun _ i => l.length - (intOf i).toNat)
  case atStart => exact ⟨0, Nat.zero_le _, rfl, rfl⟩
  case round =>
    obtain ⟨k, hk, rfl, rfl⟩ := hrel
    have hdb := D_bd wt m o (l.take k)
    by_cases hlt : k < l.length
    · obtain ⟨b, off, x, rfl, hcell, hxx, hxm⟩ := hc.tick k hlt
      obtain ⟨x0, x1⟩ := hx x hxm
      have S : Hid (D wt m o (l.take (k + 1)) = min (D wt m o (l.take k)) (near m (circ wt m o x))) := by
        rw [take_snoc l k hlt, ← hxx, D_snoc]; rfl
      generalize D wt m o (l.take k) = A at *
      have b1 : 0 ≤ x * wt := Int.mul_nonneg x0 (by omega)
      have b2 : x * wt ≤ 4294967296 * 65536 := Int.mul_le_mul (by omega) h4 (by omega) (by omega)
      have b3 := pos_bd wt m x (by omega)
      have hcd : Hid (circ wt m o x = wrapP (x * wt % 4294967296 * (m + 1) - o) ((m + 1) * 4294967296)) := rfl
      unfold pos at b3
      obtain ⟨b3, b4⟩ := b3
      clear hxx hxm
      by_cases c1 : x * wt % 4294967296 * (m + 1) - o < 0
      · go_wp2
        all_goals
          go_round
          case rel => exact ⟨k + 1, by omega, by go_num, valI (by rw [S.out, hcd.out]; unfold near wrapP; omega)⟩
          case measure => simp [intOf]; omega
      by_cases c2 : (m + 1) * 4294967296 ≤ x * wt % 4294967296 * (m + 1) - o
      · go_wp2
        all_goals
          go_round
          case rel => exact ⟨k + 1, by omega, by go_num, valI (by rw [S.out, hcd.out]; unfold near wrapP; omega)⟩
          case measure => simp [intOf]; omega
      · go_wp2
        all_goals
          go_round
          case rel => exact ⟨k + 1, by omega, by go_num, valI (by rw [S.out, hcd.out]; unfold near wrapP; omega)⟩
          case measure => simp [intOf]; omega
    · go_wp2
      go_ret
      rw [List.take_of_length_le (by omega)]
      exact ⟨rfl, rfl⟩
theorem blk_lt {w : World} {b : Nat} {o : Obj} (h : w.heap[b]? = some o) : b < w.heap.size := by
  rcases Nat.lt_or_ge b w.heap.size with h' | h'
  · exact h'
  · simp [Array.getElem?_eq_none h'] at h

set_option maxHeartbeats 2000000 in
theorem distance_any (ao : Option Addr) (cap : Nat) (l : List Int) (wt m o : Int) (w : World) (hc : Lies w ao l) (hl : l.length ≤ 131072) (hx : ∀ x ∈ l, 0 ≤ x ∧ x < 4294967296)
    (h1 : 1 ≤ m) (h2 : m ≤ 2147483646) (h3 : 1 ≤ wt) (h4 : wt ≤ 65536) (h5 : -4294967296 < o) (h6 : o < 4294967296) :
    Calls Try.prog 13 #[.agg #[.int .u64 wt, .int .u64 m, .int .i64 o], .slice ao l.length cap] w fun e w' => e = .returned (.int .i64 (D wt m o l)) ∧ Below w.heap.size w w' := by
  go_enter Try.func13, Try.ntmps13
  go_wp2
  go_loopw [5, 12] (fun a i wr => ∃ k : Nat, k ≤ l.length ∧ i = .int .i64 k ∧ a = .int .i64 (D wt m o (l.take k)) ∧ Below w.heap.size w wr ∧ Hid (wr.heap[w.heap.size]? = some (.cells #[.int .u64 wt, .int .u64 m, .int .i64 o] 42 (0, 0)))) (fun _ i _ => l.length - (intOf i).toNat)
  case atStart => exact ⟨0, Nat.zero_le _, rfl, rfl, (Below.refl _ _).alloc (Nat.le_refl _) _, heap_alloc_new _ _⟩
  case round =>
    obtain ⟨k, hk, rfl, rfl, hB, HH⟩ := hrel
    have hdb := D_bd wt m o (l.take k)
    by_cases hlt : k < l.length
    · obtain ⟨b, off, x, rfl, hcell, hxx, hxm⟩ := (hc.below hB).tick k hlt
      obtain ⟨x0, x1⟩ := hx x hxm
      have S : Hid (D wt m o (l.take (k + 1)) = min (D wt m o (l.take k)) (near m (circ wt m o x))) := by
        rw [take_snoc l k hlt, ← hxx, D_snoc]; rfl
      generalize D wt m o (l.take k) = A at *
      have cb := circ_bd wt m o x h1 h5 h6
      generalize hV : circ wt m o x = V at *
      have HV : Hid (circ wt m o x = V) := hV
      obtain ⟨cb0, cb1⟩ := cb
      have c0 := cell_of_row wr _ 0 _ _ _ HH.out
      have c1 := cell_of_row wr _ 1 _ _ _ HH.out
      have c2 := cell_of_row wr _ 2 _ _ _ HH.out
      simp only [List.getElem?_toArray, List.getElem?_cons_zero, List.getElem?_cons_succ] at c0 c1 c2
      have hBlt := blk_lt HH.out
      clear hxx hxm hV
      go_wp2_with (first
        | (go_at_call 18; refine (onCircle_any _ _ _ _ _ h1 h2 h3 h4 h5 h6 x0 x1).mono ?_; rintro e w1 ⟨rfl, hb1⟩; rw [HV.out]; have hh1 : Hid _ := (hb1.block _ hBlt).trans HH.out; have d1 := cell_of_row w1 _ 1 _ _ _ hh1.out; simp only [List.getElem?_toArray, List.getElem?_cons_zero, List.getElem?_cons_succ] at d1)
        | (go_at_call 19; refine (abs_any _ _ (by omega) (by omega)).mono ?_; rintro e w2 ⟨rfl, rfl⟩))
      all_goals
        go_roundw
        case rel => exact ⟨k + 1, by omega, by go_num, valI (by rw [S.out]; unfold near absP; omega), hB.trans (hb1.mono hB.size), hh1⟩
        case measure => simp [intOf]; omega
    · go_wp2
      go_ret
      rw [List.take_of_length_le (by omega)]
      exact ⟨rfl, hB⟩

end Go.Proofs.Qxb6619060a
