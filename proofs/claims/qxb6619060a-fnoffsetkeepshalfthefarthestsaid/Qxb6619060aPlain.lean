/-
  SEAT b6619060a: the plain laws.
-/
import Derived.WalkKit
namespace Go.Proofs.Qxb6619060a
open Go.RowKit

/-- where a value less than a span off lies on the circle -/
def wrapP (v S : Int) : Int := if v < 0 then v + S else if S ≤ v then v - S else v
def pos (w m x : Int) : Int := x * w % 4294967296 * (m + 1)
def circ (w m o x : Int) : Int := wrapP (pos w m x - o) ((m + 1) * 4294967296)
/-- how far the place v is from the nearest of the places 1 .. m, a spacing at most -/
def near (m v : Int) : Int := min (if 1 ≤ v / 4294967296 then v % 4294967296 else 4294967296) (if v / 4294967296 + 1 ≤ m then 4294967296 - v % 4294967296 else 4294967296)
/-- how near the places come to any of the ticks -/
def D (w m o : Int) (l : List Int) : Int := l.foldl (fun a x => min a (near m (circ w m o x))) 4294967296

theorem pos_bd (w m x : Int) (hm : 0 ≤ m) : 0 ≤ pos w m x ∧ pos w m x ≤ 4294967295 * (m + 1) := by
  have h1 : 0 ≤ x * w % 4294967296 := by omega
  have h2 : x * w % 4294967296 ≤ 4294967295 := by omega
  exact ⟨Int.mul_nonneg h1 (by omega), Int.mul_le_mul_of_nonneg_right h2 (by omega)⟩
theorem circ_bd (w m o x : Int) (hm : 1 ≤ m) (ho : -4294967296 < o) (ho' : o < 4294967296) : 0 ≤ circ w m o x ∧ circ w m o x < (m + 1) * 4294967296 := by
  have := pos_bd w m x (by omega)
  unfold circ wrapP
  split
  · omega
  · split <;> omega
theorem near_bd (m v : Int) : 0 ≤ near m v ∧ near m v ≤ 4294967296 := by unfold near; omega
/-- the nearest place, as the package reckons it -/
theorem near_eq (m v k : Int) (hm : 1 ≤ m) (h0 : 0 ≤ v) (h1 : v < (m + 1) * 4294967296) (hk : k = max 1 (min m ((v + 2147483648) / 4294967296))) :
    near m v = if v - k * 4294967296 < 0 then -(v - k * 4294967296) else v - k * 4294967296 := by
  unfold near; omega
theorem D_snoc (w m o x : Int) (l : List Int) : D w m o (l ++ [x]) = min (D w m o l) (near m (circ w m o x)) := by simp [D]
theorem D_bd (w m o : Int) (l : List Int) : 0 ≤ D w m o l ∧ D w m o l ≤ 4294967296 := by
  have : ∀ (l : List Int) (a : Int), 0 ≤ a → a ≤ 4294967296 → 0 ≤ l.foldl (fun a x => min a (near m (circ w m o x))) a ∧ l.foldl (fun a x => min a (near m (circ w m o x))) a ≤ 4294967296 := by
    intro l
    induction l with
    | nil => intro a h1 h2; exact ⟨h1, h2⟩
    | cons x l ih =>
      intro a h1 h2
      have := near_bd m (circ w m o x)
      exact ih (min a (near m (circ w m o x))) (by omega) (by omega)
  exact this l _ (by omega) (by omega)
theorem take_snoc (l : List Int) (k : Nat) (h : k < l.length) : l.take (k + 1) = l.take k ++ [l.getD k 0] := by
  rw [List.take_succ_eq_append_getElem h]; simp [List.getD, h]

end Go.Proofs.Qxb6619060a
