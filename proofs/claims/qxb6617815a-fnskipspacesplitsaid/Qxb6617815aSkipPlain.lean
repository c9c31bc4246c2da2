/-
  SEAT b6617815a: JSON's blanks: the plain laws.
-/
import Derived.Test.Qxb6617815aPlain
namespace Go.Proofs.Qxb6617815a
open Go.RowKit

def isSp (c : Int) : Bool := c == 32 || c == 9 || c == 10 || c == 13
/-- the least offset from n on whose byte is no blank, or the end; n itself where it lies behind the end -/
def skip (l : List Int) (n : Nat) : Nat := n + ((l.drop n).takeWhile isSp).length

theorem skip_out (l : List Int) (n : Nat) (h : l.length ≤ n) : skip l n = n := by
  simp [skip, List.drop_eq_nil_of_le h]
theorem skip_no (l : List Int) (n : Nat) (h : n < l.length) (hs : isSp (l.getD n 0) = false) : skip l n = n := by
  rw [skip, drop_cons l n h, List.takeWhile_cons_of_neg (by rw [hs]; exact Bool.false_ne_true)]; rfl
theorem skip_yes (l : List Int) (n : Nat) (h : n < l.length) (hs : isSp (l.getD n 0) = true) : skip l n = skip l (n + 1) := by
  rw [skip, drop_cons l n h, List.takeWhile_cons_of_pos hs, List.length_cons, skip]; omega
theorem skip_ge (l : List Int) (n : Nat) : n ≤ skip l n := by simp [skip]
theorem skip_le (l : List Int) (n : Nat) (h : n ≤ l.length) : skip l n ≤ l.length := by
  have := (List.takeWhile_sublist isSp (l := l.drop n)).length_le
  simp [skip] at *; omega
theorem skip_bd (l : List Int) (n : Nat) : skip l n ≤ l.length ∨ skip l n = n := by
  by_cases h : n ≤ l.length
  · exact .inl (skip_le l n h)
  · exact .inr (skip_out l n (by omega))

theorem takeWhile_at {α : Type} (p : α → Bool) (l : List α) : ∀ j, j < (l.takeWhile p).length → ∃ x, l[j]? = some x ∧ p x = true := by
  induction l with
  | nil => intro j h; simp at h
  | cons a l ih =>
    intro j h
    cases hp : p a
    · simp [hp] at h
    · rw [List.takeWhile_cons_of_pos hp] at h
      cases j with
      | zero => exact ⟨a, rfl, hp⟩
      | succ j => simpa using ih j (by simpa using h)
theorem takeWhile_end {α : Type} (p : α → Bool) (l : List α) (h : (l.takeWhile p).length < l.length) : ∃ x, l[(l.takeWhile p).length]? = some x ∧ p x = false := by
  induction l with
  | nil => simp at h
  | cons a l ih =>
    cases hp : p a
    · rw [List.takeWhile_cons_of_neg (by rw [hp]; exact Bool.false_ne_true)]
      exact ⟨a, rfl, hp⟩
    · rw [List.takeWhile_cons_of_pos hp] at h ⊢
      simpa using ih (by simpa using h)

/-- what lies between n and the answer is blank -/
theorem skip_blank (l : List Int) (n k : Nat) (h1 : n ≤ k) (h2 : k < skip l n) : isSp (l.getD k 0) = true := by
  obtain ⟨x, hx, hp⟩ := takeWhile_at isSp (l.drop n) (k - n) (by simp [skip] at h2; omega)
  rw [List.getElem?_drop, show n + (k - n) = k from by omega] at hx
  simp [List.getD, hx, hp]
/-- the byte at the answer is none -/
theorem skip_end (l : List Int) (n : Nat) (h1 : n ≤ l.length) (h2 : skip l n < l.length) : isSp (l.getD (skip l n) 0) = false := by
  obtain ⟨x, hx, hp⟩ := takeWhile_end isSp (l.drop n) (by simp [skip] at h2 ⊢; omega)
  rw [List.getElem?_drop] at hx
  show isSp (l.getD (n + ((l.drop n).takeWhile isSp).length) 0) = false
  simp [List.getD, hx, hp]

theorem skip_append_far (a b : List Int) (n : Nat) (h : a.length ≤ n) : skip (a ++ b) n = a.length + skip b (n - a.length) := by
  simp [skip, List.drop_append, List.drop_eq_nil_of_le h]; omega
theorem skip_append_in (a b : List Int) (n : Nat) (h : n ≤ a.length) (hr : skip a n < a.length) : skip (a ++ b) n = skip a n := by
  have e : (a ++ b).drop n = a.drop n ++ b := by rw [List.drop_append_of_le_length h]
  simp only [skip] at *
  rw [e, List.takeWhile_append, if_neg (by simp; omega)]
theorem skip_append_over (a b : List Int) (n : Nat) (h : n ≤ a.length) (hr : ¬ skip a n < a.length) : skip (a ++ b) n = a.length + skip b 0 := by
  have e : (a ++ b).drop n = a.drop n ++ b := by rw [List.drop_append_of_le_length h]
  have := skip_le a n h
  simp only [skip] at *
  rw [e, List.takeWhile_append, if_pos (by simp; omega)]
  simp; omega

end Go.Proofs.Qxb6617815a
