/-
  SEAT b6617827a: unquoting: the plain laws.
-/
import Derived.Test.Qxb6617827aRoundPlain
namespace Go.Proofs.Qxb6617827a
open Go.RowKit

/-- the inside of a quoted-string, its escapes taken away; a backslash at the very end stands for itself -/
def unq : List Int → List Int
  | [] => []
  | [c] => [c]
  | c :: d :: t => if c = 92 then d :: unq t else c :: unq (d :: t)

theorem unq_other (c : Int) (t : List Int) (h : c ≠ 92) : unq (c :: t) = c :: unq t := by
  cases t with
  | nil => rfl
  | cons d t => rw [unq, if_neg h]
theorem unq_esc (d : Int) (t : List Int) : unq (92 :: d :: t) = d :: unq t := by rw [unq, if_pos rfl]
theorem unq_free (a t : List Int) (h : ∀ c ∈ a, c ≠ 92) : unq (a ++ t) = a ++ unq t := by
  induction a with
  | nil => rfl
  | cons c a ih => rw [List.cons_append, unq_other c _ (h c (by simp)), ih (fun x hx => h x (by simp [hx])), List.cons_append]
theorem unq_all (a : List Int) (h : ∀ c ∈ a, c ≠ 92) : unq a = a := by
  have := unq_free a [] h
  simpa [unq] using this
theorem unq_last (a : List Int) (h : ∀ c ∈ a, c ≠ 92) : unq (a ++ [92]) = a ++ [92] := by rw [unq_free a _ h]; rfl
theorem unq_bd (l : List Int) : ∀ n, l.length ≤ n → (unq l).length ≤ l.length ∧ ∀ c ∈ unq l, c ∈ l := by
  intro n
  induction n generalizing l with
  | zero =>
    intro h
    have : l = [] := List.eq_nil_of_length_eq_zero (by omega)
    subst this; simp [unq]
  | succ n ih =>
    intro h
    match l, h with
    | [], _ => simp [unq]
    | [c], _ => simp [unq]
    | c :: d :: t, h =>
      rw [unq]
      split
      · have i := ih t (by simp at h; omega)
        refine ⟨by simp; omega, fun x hx => ?_⟩
        rcases List.mem_cons.1 hx with rfl | hx
        · simp
        · simp [i.2 x hx]
      · have i := ih (d :: t) (by simp at h ⊢; omega)
        refine ⟨by simp at i ⊢; omega, fun x hx => ?_⟩
        rcases List.mem_cons.1 hx with rfl | hx
        · simp
        · have := i.2 x hx; simp at this ⊢; exact .inr this

/-- the bytes as a string -/
def ofL (l : List Int) : ByteArray := ⟨(l.map fun n => UInt8.ofNat n.toNat).toArray⟩
theorem L_ofL (l : List Int) (h : ∀ c ∈ l, 0 ≤ c ∧ c ≤ 255) : L (ofL l) = l := by
  unfold L ofL
  simp only [List.map_map]
  conv => rhs; rw [← List.map_id l]
  apply List.map_congr_left
  intro c hc
  have := h c hc
  simp; omega
theorem ofL_size (l : List Int) : (ofL l).size = l.length := by simp [ofL, ByteArray.size]
theorem ofL_L (s : ByteArray) : ofL (L s) = s := L_inj (L_ofL _ (L_bd s))

/-- is it quoted? -/
def isQ (l : List Int) : Bool := decide (2 ≤ l.length) && (l.getD 0 0 == 34) && (l.getD (l.length - 1) 0 == 34)
/-- the inside -/
def ins (l : List Int) : List Int := (l.drop 1).take (l.length - 2)
def unqS (s : ByteArray) : ByteArray := if isQ (L s) = true then ofL (unq (ins (L s))) else s

/-- what is left of the inside from place k of the whole on -/
def rest (s : ByteArray) (k : Nat) : List Int := ((L s).take (s.size - 1)).drop k
theorem rest_one (s : ByteArray) (h : 2 ≤ s.size) : rest s 1 = ins (L s) := by
  unfold rest ins
  rw [L_length, List.drop_take, show s.size - 1 - 1 = s.size - 2 from by omega]
theorem rest_cons (s : ByteArray) (k : Nat) (h : k < s.size - 1) : rest s k = ((s[k]'(by omega)).toNat : Int) :: rest s (k + 1) := by
  unfold rest
  have h' : k < ((L s).take (s.size - 1)).length := by rw [List.length_take, L_length]; omega
  rw [List.drop_eq_getElem_cons h']
  simp [L]; rfl
theorem rest_end (s : ByteArray) (k : Nat) (h : ¬ k < s.size - 1) : rest s k = [] := by
  apply List.drop_eq_nil_of_le; rw [List.length_take]; omega

theorem L_getD (s : ByteArray) (k : Nat) (h : k < s.size) : (L s).getD k 0 = (s[k].toNat : Int) := by
  have := L_drop s k h
  have h2 : k < (L s).length := by rw [L_length]; exact h
  rw [List.drop_eq_getElem_cons h2] at this
  simp only [List.cons.injEq] at this
  simp [List.getD, h2, this.1]

/-- ONE STEP OF THE RUN COPY -/
theorem ix_split (c : Int) (l : List Int) : ∀ i, (ix c l i = -1 ∧ ∀ x ∈ l, x ≠ c) ∨ ∃ k : Nat, ix c l i = ((i + k : Nat) : Int) ∧ k < l.length ∧ (∀ x ∈ l.take k, x ≠ c) ∧ l = l.take k ++ c :: l.drop (k + 1) := by
  induction l with
  | nil => intro i; exact .inl ⟨rfl, by simp⟩
  | cons x t ih =>
    intro i
    by_cases e : x = c
    · subst e
      exact .inr ⟨0, by simp [ix], by simp, by simp, by simp⟩
    · rcases ih (i + 1) with ⟨h1, h2⟩ | ⟨k, h1, h2, h3, h4⟩
      · refine .inl ⟨by rw [ix, if_neg e]; exact h1, fun y hy => ?_⟩
        rcases List.mem_cons.1 hy with rfl | hy
        · exact e
        · exact h2 y hy
      · refine .inr ⟨k + 1, by rw [ix, if_neg e, h1]; omega, by simp; omega, fun y hy => ?_, ?_⟩
        · rw [List.take_succ_cons] at hy
          rcases List.mem_cons.1 hy with rfl | hy
          · exact e
          · exact h3 y hy
        · rw [List.take_succ_cons, List.drop_succ_cons, List.cons_append, ← h4]

end Go.Proofs.Qxb6617827a
