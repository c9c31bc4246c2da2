/-
  SEAT b6619060a: THE CONTRACT OF discrepancy: some number.
-/
import Derived.Test.Qxb6619060aTurns
namespace Go.Proofs.Qxb6619060a
open Go.RowKit

def slLen : Value → Nat | .slice _ n _ => n | _ => 0

theorem below_dN {B : Nat} {a w : World} (h : Below B a w) (n : Nat) : Below B a (w.drewN n) := ⟨h.os, h.tape, h.output, h.size, h.block⟩
theorem Lies.dN {w : World} {ao : Option Addr} {l : List Int} (h : Lies w ao l) (n : Nat) : Lies (w.drewN n) ao l := fun j hj => h j hj
theorem Lies.tail {w : World} {b off : Nat} {l : List Int} {ca : Nat} (h : Lies w (some ⟨b, off, none⟩) l) (hc : l.length ≤ ca) : Lies w (if ca = 1 then some ⟨b, off, none⟩ else some ⟨b, off + 1, none⟩) l.tail := by
  intro j hj
  rw [List.length_tail] at hj
  obtain ⟨b', off', e, hc'⟩ := h (j + 1) (by omega)
  simp only [Option.some.injEq, Addr.mk.injEq, and_true] at e
  obtain ⟨rfl, rfl⟩ := e
  refine ⟨b, off + 1, by rw [if_neg (by omega)], ?_⟩
  rw [show off + 1 + j = off + (j + 1) from by omega, hc']
  cases l with
  | nil => simp at hj
  | cons x t => simp [List.getD]

set_option maxRecDepth 100000 in
set_option maxHeartbeats 2000000 in
theorem disc_any (ao bo : Option Addr) (ca cb : Nat) (la lb : List Int) (wt m o : Int) (w : World) (ha : Lies w ao la) (hb : Lies w bo lb) (hla : la.length ≤ 1099511627776) (hlb : lb.length ≤ 1099511627776)
    (hca : la.length ≤ ca) (hcb : lb.length ≤ cb) (hca' : ca ≤ maxLen) (hcb' : cb ≤ maxLen)
    (h1 : 1 ≤ m) (h2 : m ≤ 2147483646) (h3 : 1 ≤ wt) (h4 : wt ≤ 65536) :
    Calls Try.prog 17 #[.agg #[.int .u64 wt, .int .u64 m, .int .i64 o], .slice ao la.length ca, .slice bo lb.length cb] w fun e w' => ∃ r : Int, e = .returned (.int .i64 r) ∧ Below w.heap.size w w' := by
  have b1 : 0 ≤ (m + 1) * wt := Int.mul_nonneg (by omega) (by omega)
  have b2 : (m + 1) * wt ≤ 2147483647 * 65536 := Int.mul_le_mul (by omega) h4 (by omega) (by omega)
  have b3 : 1 * 1 ≤ (m + 1) * wt := Int.mul_le_mul (by omega) h3 (by omega) (by omega)
  have b4 : ((m + 1) * wt == 0) = false := by rw [beq_eq_false_iff_ne]; omega
  unfold maxLen at hca' hcb'
  go_enter Try.func17, Try.ntmps17
  go_wp2
  go_loopw [1, 2, 9, 10] (fun s t z q wr => ∃ (ao bo : Option Addr) (ca cb na nb : Nat) (la lb : List Int) (Z q' : Int), s = .slice ao na ca ∧ t = .slice bo nb cb ∧ z = .int .i64 Z ∧ q = .int .i64 q' ∧ Hid (la.length = na) ∧ Hid (lb.length = nb) ∧ Lies wr ao la ∧ Lies wr bo lb ∧ na ≤ ca ∧ nb ≤ cb ∧ ca ≤ 9223372036854775807 ∧ cb ≤ 9223372036854775807 ∧ Below w.heap.size w wr) (fun s t _ _ _ => slLen s + slLen t)
  case atStart => exact ⟨ao, bo, ca, cb, la.length, lb.length, la, lb, 0, 0, rfl, rfl, rfl, rfl, rfl, rfl, ha.below ((Below.refl _ _).alloc (Nat.le_refl _) _), hb.below ((Below.refl _ _).alloc (Nat.le_refl _) _), hca, hcb, hca', hcb', (Below.refl _ _).alloc (Nat.le_refl _) _⟩
  case round =>
    clear ha hb hla hlb hca hcb hca' hcb'
    obtain ⟨ao, bo, ca, cb, na, nb, la, lb, Z, q, rfl, rfl, rfl, rfl, HA, HB, ha, hb, hca, hcb, hca', hcb', hB⟩ := hrel
    by_cases e2 : nb = 0
    · subst e2
      by_cases e1 : na = 0
      · subst e1
        go_wp2
        go_ret
        exact ⟨_, rfl, hB⟩
      · obtain ⟨b, off, x, rfl, cx, hxx, hm⟩ := ha.tick 0 (by have := HA.out; omega)
        have g1 : (0 : Int) < (na : Int) := by omega
        have g4 : (na : Int) ≤ (ca : Int) := by omega
        simp only [Nat.add_zero] at cx
        clear e1 hxx hm
        go_wp2
        go_quiet (fail)
        go_wp2
        go_quiet (fail)
        go_wp2
        go_roundw
        case rel => exact ⟨_, bo, ca - 1, cb, na - 1, 0, la.tail, lb, _, _, rfl, rfl, rfl, rfl, by have := HA.out; rw [Hid, List.length_tail]; omega, HB, (ha.tail (by have := HA.out; omega)).dN _, hb.dN _, by omega, by omega, by omega, by omega, below_dN hB _⟩
        case measure => simp [slLen]; omega
    · obtain ⟨b2, off2, x2, rfl, cx2, hxx2, hm2⟩ := hb.tick 0 (by have := HB.out; omega)
      have k1 : (0 : Int) < (nb : Int) := by omega
      have k2 : ((nb : Int) == 0) = false := by rw [beq_eq_false_iff_ne]; omega
      have k4 : (nb : Int) ≤ (cb : Int) := by omega
      simp only [Nat.add_zero] at cx2
      clear e2 hxx2 hm2
      by_cases e1 : na = 0
      · subst e1
        go_wp2
        go_quiet (fail)
        go_wp2
        go_quiet (fail)
        go_wp2
        go_roundw
        case rel => exact ⟨ao, _, ca, cb - 1, 0, nb - 1, la, lb.tail, _, _, rfl, rfl, rfl, rfl, HA, by have := HB.out; rw [Hid, List.length_tail]; omega, ha.dN _, (hb.tail (by have := HB.out; omega)).dN _, by omega, by omega, by omega, by omega, below_dN hB _⟩
        case measure => simp [slLen]; omega
      · obtain ⟨b, off, x, rfl, cx, hxx, hm⟩ := ha.tick 0 (by have := HA.out; omega)
        have g1 : (0 : Int) < (na : Int) := by omega
        have g4 : (na : Int) ≤ (ca : Int) := by omega
        simp only [Nat.add_zero] at cx
        clear e1 hxx hm
        have gd : decide (0 < na) = true := decide_eq_true (by omega)
        go_wp2
        go_quiet (fail)
        go_wp2
        · go_quiet (fail)
          go_wp2
          go_roundw
          case rel => exact ⟨_, _, ca - 1, cb, na - 1, nb, la.tail, lb, _, _, rfl, rfl, rfl, rfl, by have := HA.out; rw [Hid, List.length_tail]; omega, HB, (ha.tail (by have := HA.out; omega)).dN _, hb.dN _, by omega, by omega, by omega, by omega, below_dN hB _⟩
          case measure => simp [slLen]; omega
        · go_quiet (fail)
          go_wp2
          go_roundw
          case rel => exact ⟨_, _, ca, cb - 1, na, nb - 1, la, lb.tail, _, _, rfl, rfl, rfl, rfl, HA, by have := HB.out; rw [Hid, List.length_tail]; omega, ha.dN _, (hb.tail (by have := HB.out; omega)).dN _, by omega, by omega, by omega, by omega, below_dN hB _⟩
          case measure => simp [slLen]; omega

end Go.Proofs.Qxb6619060a
