/-
  SEAT b6617815a: THE PLAIN LAWS: no Go text in sight. Bytes are Ints from 0 to 255, a slice of bytes is a list of them.
-/
import Derived.WalkKit
import Derived.Laws.BitsAllLaws
namespace Go.Proofs.Qxb6617815a
open Go.RowKit

/-! ### hex digits -/
def hexV (c : Int) : Int := if 48 ≤ c ∧ c ≤ 57 then c - 48 else if 97 ≤ c ∧ c ≤ 102 then c - 87 else if 65 ≤ c ∧ c ≤ 70 then c - 55 else -1
def isHex (c : Int) : Bool := decide (0 ≤ hexV c)
/-- the value that the law's own digit reader answers: 0 where it is no digit -/
def hexD (c : Int) : Int := if isHex c = true then hexV c else 0
def allH (l : List Int) : Bool := l.all isHex
def val (l : List Int) : Int := l.foldl (fun a c => 16 * a + hexV c) 0
/-- what hexUnit answers first -/
def hxR (l : List Int) : Int := if allH l = true then wrap32 (val l) else 0

theorem hexV_le (c : Int) : hexV c ≤ 15 := by unfold hexV; split <;> (try split) <;> (try split) <;> omega
theorem isHex_iff (c : Int) : isHex c = true ↔ 0 ≤ hexV c := by simp [isHex]
theorem hexD_bd (c : Int) : 0 ≤ hexD c ∧ hexD c ≤ 15 := by
  have := hexV_le c
  unfold hexD; split
  · rename_i h; rw [isHex_iff] at h; omega
  · omega
theorem val_nil : val [] = 0 := rfl
theorem val_snoc (l : List Int) (c : Int) : val (l ++ [c]) = 16 * val l + hexV c := by simp [val]
theorem allH_snoc (l : List Int) (c : Int) : allH (l ++ [c]) = (allH l && isHex c) := by simp [allH]
theorem take_snoc (l : List Int) (k : Nat) (h : k < l.length) : l.take (k + 1) = l.take k ++ [l.getD k 0] := by
  rw [List.take_succ_eq_append_getElem h]; simp [List.getD, h]
theorem drop_cons (l : List Int) (k : Nat) (h : k < l.length) : l.drop k = l.getD k 0 :: l.drop (k + 1) := by
  rw [List.drop_eq_getElem_cons h]; simp [List.getD, h]
theorem wrap32_step (x v : Int) : wrap32 (wrap32 (wrap32 x * 16) + v) = wrap32 (16 * x + v) := by
  unfold wrap32; omega

theorem or_i32 (x y : Int) : bits .or .i32 x y = wrap32 (((x % 4294967296).toNat ||| (y % 4294967296).toNat : Nat) : Int) := by
  have h1 : ∀ z : Int, (BitVec.ofInt 32 z).toNat = (z % 4294967296).toNat := fun z => by rw [BitVec.toNat_ofInt]; rfl
  show IntKind.i32.wrap ((BitVec.ofInt 32 x ||| BitVec.ofInt 32 y).toNat : Int) = _
  rw [BitVec.toNat_or, h1, h1, IntKind.wrap_i32]
  unfold wrap32; omega
theorem or_i32_join (i : Nat) (x y : Int) (hx : (x % 4294967296).toNat % 2 ^ i = 0) (hy : (y % 4294967296).toNat < 2 ^ i) : bits .or .i32 x y = wrap32 (x + y) := by
  rw [or_i32, nat_join i _ _ hx hy]
  unfold wrap32; omega
theorem hex_step (x v : Int) (h0 : 0 ≤ v) (h1 : v ≤ 15) : bits .or .i32 (wrap32 (wrap32 x * 16)) v = wrap32 (16 * x + v) := by
  rw [or_i32_join 4 _ _ (by unfold wrap32; omega) (by omega), wrap32_step]

/-- 'c | 0x20' -/
theorem or32_nat : ∀ n : Nat, n < 256 → (97 ≤ n ∧ n ≤ 102 → n ||| 32 = n) ∧ (65 ≤ n ∧ n ≤ 70 → n ||| 32 = n + 32) ∧ (¬ (97 ≤ n ∧ n ≤ 102) ∧ ¬ (65 ≤ n ∧ n ≤ 70) → n ||| 32 < 97 ∨ 102 < n ||| 32) ∧ n ||| 32 < 256 := by decide +kernel
theorem or32 (c : Int) (h0 : 0 ≤ c) (h1 : c ≤ 255) : (97 ≤ c ∧ c ≤ 102 → bits .or .u8 c 32 = c) ∧ (65 ≤ c ∧ c ≤ 70 → bits .or .u8 c 32 = c + 32) ∧
    (¬ (97 ≤ c ∧ c ≤ 102) ∧ ¬ (65 ≤ c ∧ c ≤ 70) → bits .or .u8 c 32 < 97 ∨ 102 < bits .or .u8 c 32) := by
  obtain ⟨n, rfl⟩ := Int.eq_ofNat_of_zero_le h0
  have e : bits .or .u8 (n : Int) 32 = ((n ||| 32 : Nat) : Int) := u8_or_nat n 32 (by omega) (by omega)
  have := or32_nat n (by omega)
  rw [e]; omega

/-! ### the model: read from the right -/
theorem foldl_hex (l : List Int) (a : Int) : l.foldl (fun a c => 16 * a + hexV c) a = a * 16 ^ l.length + val l := by
  induction l generalizing a with
  | nil => simp [val]
  | cons c l ih =>
    show l.foldl (fun a c => 16 * a + hexV c) (16 * a + hexV c) = a * 16 ^ (l.length + 1) + l.foldl (fun a c => 16 * a + hexV c) (16 * 0 + hexV c)
    rw [ih, ih (16 * 0 + hexV c), Int.pow_succ]
    generalize (16 : Int) ^ l.length = P
    have e1 : 16 * a * P = 16 * (a * P) := Int.mul_assoc ..
    have e2 : a * (P * 16) = 16 * (a * P) := by rw [← Int.mul_assoc, Int.mul_comm]
    rw [Int.add_mul, e1, e2, Int.mul_zero, Int.zero_add, Int.add_assoc]
theorem val_append (a b : List Int) : val (a ++ b) = val a * 16 ^ b.length + val b := by
  show (a ++ b).foldl (fun a c => 16 * a + hexV c) 0 = _
  rw [List.foldl_append, foldl_hex]; rfl
theorem val_cons (c : Int) (l : List Int) : val (c :: l) = hexV c * 16 ^ l.length + val l := by
  have := val_append [c] l
  simpa [val] using this
theorem acc_step (v p x : Int) : ((x % 4294967296) + (v * (p % 4294967296)) % 4294967296) % 4294967296 = (v * p + x) % 4294967296 := by
  rw [← Int.add_emod, Int.add_emod x, Int.mul_emod v (p % 4294967296), Int.emod_emod, ← Int.mul_emod, ← Int.add_emod, Int.add_comm]
theorem pow_step (m : Nat) : (((16 : Int) ^ m) % 4294967296 * 16) % 4294967296 = (16 : Int) ^ (m + 1) % 4294967296 := by
  rw [Int.pow_succ, Int.mul_emod ((16 : Int) ^ m) 16]
  rw [Int.mul_emod ((16 : Int) ^ m % 4294967296) 16, Int.emod_emod]
theorem model_step (l : List Int) (k : Nat) (c A P : Int) (hk : k < l.length) (hc : c = l.getD k 0) (hh : isHex c = true) (ha : allH (l.drop (k + 1)) = true)
    (hA : val (l.drop (k + 1)) % 4294967296 = A) (hP : (16 : Int) ^ (l.length - (k + 1)) % 4294967296 = P) :
    allH (l.drop k) = true ∧ (A + hexD c * P % 4294967296) % 4294967296 = val (l.drop k) % 4294967296 ∧ P * 16 % 4294967296 = (16 : Int) ^ (l.length - k) % 4294967296 := by
  have e : l.drop k = c :: l.drop (k + 1) := by rw [hc]; exact drop_cons l k hk
  have el : (l.drop (k + 1)).length = l.length - (k + 1) := by simp
  refine ⟨?_, ?_, ?_⟩
  · rw [e]; show (isHex c && allH (l.drop (k + 1))) = true; rw [hh, ha]; rfl
  · rw [e, val_cons, el, ← hA, ← hP, acc_step]
    rw [hexD, if_pos hh]
  · rw [← hP, pow_step]
    rw [show l.length - (k + 1) + 1 = l.length - k from by omega]
theorem wrap32_emod (x : Int) : wrap32 (x % 4294967296) = wrap32 x := by unfold wrap32; omega

end Go.Proofs.Qxb6617815a
