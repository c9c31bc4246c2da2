/-
  SEAT b6617827a: the cut outside quoted-strings: the plain laws. A string's bytes are Ints from 0 to 255.
-/
import Derived.WalkKit
namespace Go.Proofs.Qxb6617827a
open Go.RowKit

/-- a string's bytes -/
def L (s : ByteArray) : List Int := s.data.toList.map fun c => (c.toNat : Int)

/-- WHERE TO CUT: the place of the first sep outside a quoted-string. st: 0: outside; 1: inside; 2: inside, behind a backslash. i: the place of the list's head. -/
def scan (sep : Int) : Nat → List Int → Nat → Option Nat
  | _, [], _ => none
  | st, c :: t, i =>
    if st = 2 then scan sep 1 t (i + 1)
    else if st = 1 ∧ c = 92 then scan sep 2 t (i + 1)
    else if c = 34 then scan sep (1 - st) t (i + 1)
    else if st = 0 ∧ c = sep then some i
    else scan sep st t (i + 1)

theorem scan_nil (sep : Int) (st i : Nat) : scan sep st [] i = none := by simp [scan]
theorem scan_two (sep : Int) (l : List Int) (i : Nat) : scan sep 2 l i = scan sep 1 (l.drop 1) (i + 1) := by
  cases l with
  | nil => simp [scan]
  | cons c t => simp [scan]
theorem scan_back (sep : Int) (t : List Int) (i : Nat) : scan sep 1 (92 :: t) i = scan sep 1 (t.drop 1) (i + 2) := by
  rw [show scan sep 1 (92 :: t) i = scan sep 2 t (i + 1) from by simp [scan], scan_two]
theorem scan_in_quote (sep : Int) (t : List Int) (i : Nat) : scan sep 1 (34 :: t) i = scan sep 0 t (i + 1) := by simp [scan]
theorem scan_in_other (sep c : Int) (t : List Int) (i : Nat) (h1 : c ≠ 92) (h2 : c ≠ 34) : scan sep 1 (c :: t) i = scan sep 1 t (i + 1) := by simp [scan, h1, h2]
theorem scan_out_quote (sep : Int) (t : List Int) (i : Nat) : scan sep 0 (34 :: t) i = scan sep 1 t (i + 1) := by simp [scan]
theorem scan_out_sep (sep : Int) (t : List Int) (i : Nat) (h : sep ≠ 34) : scan sep 0 (sep :: t) i = some i := by simp [scan, h]
theorem scan_out_other (sep c : Int) (t : List Int) (i : Nat) (h1 : c ≠ 34) (h2 : c ≠ sep) : scan sep 0 (c :: t) i = scan sep 0 t (i + 1) := by simp [scan, h1, h2]

theorem L_length (s : ByteArray) : (L s).length = s.size := by simp [L]
theorem L_drop (s : ByteArray) (k : Nat) (h : k < s.size) : (L s).drop k = (s[k].toNat : Int) :: (L s).drop (k + 1) := by
  rw [List.drop_eq_getElem_cons (by rw [L_length]; exact h)]
  simp [L]; rfl
theorem L_end (s : ByteArray) (k : Nat) (h : ¬ k < s.size) : (L s).drop k = [] := List.drop_eq_nil_of_le (by rw [L_length]; omega)

end Go.Proofs.Qxb6617827a
