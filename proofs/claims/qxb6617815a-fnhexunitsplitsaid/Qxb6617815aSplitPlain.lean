/-
  SEAT b6617815a: hexUnit over a join: the plain laws.
-/
import Derived.Test.Qxb6617815aPlain
namespace Go.Proofs.Qxb6617815a
open Go.RowKit

theorem allH_append (a b : List Int) : allH (a ++ b) = (allH a && allH b) := by simp [allH]
theorem val_bd (l : List Int) (h : allH l = true) : 0 ≤ val l ∧ val l < 16 ^ l.length := by
  induction l with
  | nil => simp [val]
  | cons c l ih =>
    have h' : (isHex c && allH l) = true := h
    rw [Bool.and_eq_true] at h'
    have i1 := ih h'.2
    have i2 := hexV_le c
    have i3 := (isHex_iff c).1 h'.1
    have hP : (0 : Int) ≤ 16 ^ l.length := by omega
    rw [val_cons, List.length_cons, Int.pow_succ]
    have e1 : 0 ≤ hexV c * 16 ^ l.length := Int.mul_nonneg i3 hP
    have e2 : hexV c * 16 ^ l.length ≤ 15 * 16 ^ l.length := Int.mul_le_mul_of_nonneg_right i2 hP
    omega

theorem pow_two_four (m : Nat) : (2 : Int) ^ (4 * m) = 16 ^ m := by rw [Int.pow_mul]; rfl

theorem hex_split (a b : List Int) (hb : allH b = true) :
    bits .or .i32 (wrap32 (wrap32 (val a) * 2 ^ min (4 * b.length) 32)) (wrap32 (val b)) = wrap32 (val (a ++ b)) := by
  have hv := val_bd b hb
  rw [val_append]
  by_cases h : b.length ≤ 7
  · rw [show min (4 * b.length) 32 = 4 * b.length from by omega, pow_two_four]
    have hc : b.length = 0 ∨ b.length = 1 ∨ b.length = 2 ∨ b.length = 3 ∨ b.length = 4 ∨ b.length = 5 ∨ b.length = 6 ∨ b.length = 7 := by omega
    rw [or_i32_join (4 * b.length)]
    · generalize val a = x at *
      generalize val b = y at *
      rcases hc with e | e | e | e | e | e | e | e <;> rw [e] at hv ⊢ <;> simp only [wrap32] at * <;> omega
    · generalize val a = x at *
      rcases hc with e | e | e | e | e | e | e | e <;> rw [e] <;> simp only [wrap32] <;> omega
    · generalize val b = y at *
      rcases hc with e | e | e | e | e | e | e | e <;> rw [e] at hv ⊢ <;> simp only [wrap32] at * <;> omega
  · rw [show min (4 * b.length) 32 = 32 from by omega]
    obtain ⟨q, hq⟩ : ∃ q, b.length = 8 + q := ⟨b.length - 8, by omega⟩
    have e : (16 : Int) ^ b.length = 4294967296 * 16 ^ q := by rw [hq, Int.pow_add]; rfl
    have e2 : val a * 16 ^ b.length = 4294967296 * (val a * 16 ^ q) := by rw [e, Int.mul_left_comm]
    rw [e2]
    generalize val a * 16 ^ q = z
    rw [show wrap32 (wrap32 (val a) * 2 ^ 32) = 0 from by unfold wrap32; omega, or_i32_join 32 _ _ (by simp) (by omega)]
    unfold wrap32; omega

end Go.Proofs.Qxb6617815a
