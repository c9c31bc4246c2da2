/-
  SEAT b6617815a: joinBytes.
-/
import Derived.Test.Qxb6617815aCopy
namespace Go.Proofs.Qxb6617815a
open Go.RowKit

theorem retS {b n m : Nat} (h : n = m) : Ending.returned (.slice (some ⟨b, 0, none⟩) n n) = .returned (.slice (some ⟨b, 0, none⟩) m m) := by rw [h]

theorem join_end {w' : World} {g : Nat} {la lb : List Int} {cur : List Value} (hc : cur.length = la.length + lb.length) (ha : ∀ c ∈ la, 0 ≤ c ∧ c ≤ 255) (hb : ∀ c ∈ lb, 0 ≤ c ∧ c ≤ 255)
    (h : w'.heap[g]? = some (.cells (splice (splice cur 0 (la.map (Value.int .u8))) la.length (lb.map (Value.int .u8))).toArray 5 (0, 0))) : Lies w' (some ⟨g, 0, none⟩) (la ++ lb) := by
  refine lies_of_row ?_ (fun c h => (List.mem_append.1 h).elim (ha c) (hb c))
  rw [h]
  have := splice_two cur (la.map (Value.int .u8)) (lb.map (Value.int .u8)) (by simpa using hc)
  rw [List.length_map] at this
  rw [this, List.map_append]

set_option maxHeartbeats 1000000 in
theorem join_any (ao bo : Option Addr) (ca cb : Nat) (la lb : List Int) (w : World) (ha : Lies w ao la) (hb : Lies w bo lb) (h1 : la.length ≤ 524288) (h2 : lb.length ≤ 524288) :
    Calls Try.prog 12 #[.slice ao la.length ca, .slice bo lb.length cb] w fun e w' => e = .returned (.slice (some ⟨w.heap.size, 0, none⟩) (la ++ lb).length (la ++ lb).length) ∧ Lies w' (some ⟨w.heap.size, 0, none⟩) (la ++ lb) ∧ Below w.heap.size w w' := by
  by_cases hlb : lb = []
  · subst hlb
    go_enter Try.func12, Try.ntmps12
    go_wp2_with (first
      | (at_make; refine make_law rfl _ _ rfl _ la.length rfl rfl (by simp) (by omega) ?_; intro w1 cur hcur hb1)
      | (with_reducible refine at_dst 14 ?_; refine copy_law rfl (.tmp 12) (.tmp 13) rfl _ _ _ _ _ _ rfl rfl la rfl (by omega) w.heap.size 0 cur hcur.out.1 (by have := hcur.out.2; omega) (fun _ => rfl) (ha.below hb1) w.heap.size w hb1 (Nat.le_refl _) ?_; intro w2 hg2 hb2)
      | (with_reducible refine at_dst 20 ?_; refine copy_law rfl (.tmp 18) (.tmp 19) rfl _ _ _ _ _ _ rfl rfl [] rfl (by simp) w.heap.size la.length _ hg2.out (by have := hcur.out.2; rw [length_splice _ _ _ (by simp; omega)]; simp; omega) (by intro h; simp at h) (hb.below hb2) w.heap.size w hb2 (Nat.le_refl _) ?_; intro w3 hg3 hb3)
      )
    go_ret
    exact ⟨retS (by simp), join_end (by simpa using hcur.out.2) ha.1 hb.1 hg3.out, hb3⟩
  · have hpos : 0 < lb.length := List.length_pos_iff.2 hlb
    go_enter Try.func12, Try.ntmps12
    go_wp2_with (first
      | (at_make; refine make_law rfl _ _ rfl _ (la.length + lb.length) rfl rfl (by simp) (by omega) ?_; intro w1 cur hcur hb1)
      | (with_reducible refine at_dst 14 ?_; refine copy_law rfl (.tmp 12) (.tmp 13) rfl _ _ _ _ _ _ rfl rfl la rfl (by omega) w.heap.size 0 cur hcur.out.1 (by have := hcur.out.2; omega) (fun _ => rfl) (ha.below hb1) w.heap.size w hb1 (Nat.le_refl _) ?_; intro w2 hg2 hb2)
      | (with_reducible refine at_dst 20 ?_; refine copy_law rfl (.tmp 18) (.tmp 19) rfl _ _ _ _ _ _ rfl rfl lb rfl (by simp) w.heap.size la.length _ hg2.out (by have := hcur.out.2; rw [length_splice _ _ _ (by simp; omega)]; omega) (fun _ => rfl) (hb.below hb2) w.heap.size w hb2 (Nat.le_refl _) ?_; intro w3 hg3 hb3)
      )
    go_ret
    exact ⟨retS (by simp), join_end hcur.out.2 ha.1 hb.1 hg3.out, hb3⟩
end Go.Proofs.Qxb6617815a
