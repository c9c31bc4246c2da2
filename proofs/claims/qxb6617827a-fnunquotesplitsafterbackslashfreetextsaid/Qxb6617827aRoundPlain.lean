/-
  SEAT b6617827a: the round trip of a cut: the plain laws.
-/
import Derived.Test.Qxb6617827aPlain
import Derived.Lib.Strings
namespace Go.Proofs.Qxb6617827a
open Go.RowKit

/-- one byte as a string -/
def ofB (c : Int) : ByteArray := ⟨#[UInt8.ofNat c.toNat]⟩
theorem ofB_size (c : Int) : (ofB c).size = 1 := rfl
theorem L_ofB (c : Int) (h0 : 0 ≤ c) (h1 : c ≤ 255) : L (ofB c) = [c] := by
  simp [L, ofB]; omega

theorem L_append (a b : ByteArray) : L (a ++ b) = L a ++ L b := by simp [L]
theorem L_inj {a b : ByteArray} (h : L a = L b) : a = b := by
  apply ByteArray.ext
  apply Array.toList_inj.1
  have : ∀ (x y : List UInt8), x.map (fun c => (c.toNat : Int)) = y.map (fun c => (c.toNat : Int)) → x = y := by
    intro x
    induction x with
    | nil => intro y h; cases y with | nil => rfl | cons _ _ => simp at h
    | cons c x ih =>
      intro y h
      cases y with
      | nil => simp at h
      | cons d y =>
        simp only [List.map_cons, List.cons.injEq] at h
        have hc : c = d := by apply UInt8.toNat_inj.1; omega
        rw [hc, ih y h.2]
  exact this _ _ h
theorem L_extract (s : ByteArray) (i j : Nat) : L (s.extract i j) = ((L s).drop i).take (j - i) := by
  unfold L
  rw [Lib.extract_data, List.map_take, List.map_drop]
theorem L_bd (s : ByteArray) : ∀ c ∈ L s, 0 ≤ c ∧ c ≤ 255 := by
  intro c h
  unfold L at h
  obtain ⟨u, _, rfl⟩ := List.mem_map.1 h
  have := u.toNat_lt
  omega

theorem scan_some (sep : Int) (l : List Int) : ∀ (st i k : Nat), scan sep st l i = some k →
    ∃ pre post, l = pre ++ sep :: post ∧ k = i + pre.length ∧ scan sep st pre i = none ∧ ∀ y, scan sep st (pre ++ sep :: y) i = some k := by
  induction l with
  | nil => intro st i k h; simp [scan] at h
  | cons c t ih =>
    intro st i k h
    rw [scan] at h
    by_cases c1 : st = 2
    · rw [if_pos c1] at h
      obtain ⟨pre, post, e, ek, hn, hy⟩ := ih _ _ _ h
      exact ⟨c :: pre, post, by rw [e]; rfl, by rw [ek, List.length_cons]; omega, by rw [scan, if_pos c1]; exact hn, fun y => by rw [List.cons_append, scan, if_pos c1]; exact hy y⟩
    rw [if_neg c1] at h
    by_cases c2 : st = 1 ∧ c = 92
    · rw [if_pos c2] at h
      obtain ⟨pre, post, e, ek, hn, hy⟩ := ih _ _ _ h
      exact ⟨c :: pre, post, by rw [e]; rfl, by rw [ek, List.length_cons]; omega, by rw [scan, if_neg c1, if_pos c2]; exact hn, fun y => by rw [List.cons_append, scan, if_neg c1, if_pos c2]; exact hy y⟩
    rw [if_neg c2] at h
    by_cases c3 : c = 34
    · rw [if_pos c3] at h
      obtain ⟨pre, post, e, ek, hn, hy⟩ := ih _ _ _ h
      exact ⟨c :: pre, post, by rw [e]; rfl, by rw [ek, List.length_cons]; omega, by rw [scan, if_neg c1, if_neg c2, if_pos c3]; exact hn, fun y => by rw [List.cons_append, scan, if_neg c1, if_neg c2, if_pos c3]; exact hy y⟩
    rw [if_neg c3] at h
    by_cases c4 : st = 0 ∧ c = sep
    · rw [if_pos c4] at h
      obtain ⟨rfl, rfl⟩ := c4
      obtain rfl := Option.some.inj h
      exact ⟨[], t, rfl, rfl, by simp [scan], fun y => by rw [List.nil_append, scan, if_neg c1, if_neg c2, if_neg c3, if_pos ⟨rfl, rfl⟩]⟩
    rw [if_neg c4] at h
    obtain ⟨pre, post, e, ek, hn, hy⟩ := ih _ _ _ h
    exact ⟨c :: pre, post, by rw [e]; rfl, by rw [ek, List.length_cons]; omega, by rw [scan, if_neg c1, if_neg c2, if_neg c3, if_neg c4]; exact hn, fun y => by rw [List.cons_append, scan, if_neg c1, if_neg c2, if_neg c3, if_neg c4]; exact hy y⟩

/-- the plain index of a byte -/
def ix (c : Int) : List Int → Nat → Int
  | [], _ => -1
  | x :: t, i => if x = c then i else ix c t (i + 1)
theorem ix_lo (c : Int) (l : List Int) : ∀ i, -1 ≤ ix c l i := by
  induction l with
  | nil => intro i; simp [ix]
  | cons x t ih => intro i; rw [ix]; split; omega; exact ih _
theorem ix_none (c : Int) (l : List Int) : ∀ i, ix c l i < 0 → ∀ x ∈ l, x ≠ c := by
  induction l with
  | nil => intro i _ x hx; cases hx
  | cons y t ih =>
    intro i h x hx
    rw [ix] at h
    split at h
    · omega
    · rename_i hne
      rcases List.mem_cons.1 hx with rfl | hx
      · exact hne
      · exact ih _ h x hx
/-- without a quote the cut is the plain cut -/
theorem scan_plain (sep : Int) (l : List Int) : ∀ i, (∀ c ∈ l, c ≠ 34) → (scan sep 0 l i = none ∧ ix sep l i = -1) ∨ ∃ k : Nat, scan sep 0 l i = some k ∧ ix sep l i = k := by
  induction l with
  | nil => intro i _; exact .inl ⟨by simp [scan], rfl⟩
  | cons c t ih =>
    intro i h
    have hc := h c (by simp)
    by_cases e : c = sep
    · subst e
      exact .inr ⟨i, scan_out_sep _ _ _ hc, by simp [ix]⟩
    · rw [scan_out_other _ _ _ _ hc e, ix, if_neg e]
      exact ih _ (fun x hx => h x (by simp [hx]))

/-- ALL THAT THE LAW ASKS OF A CUT THAT WAS FOUND. -/
theorem found (s x : ByteArray) (sep : Int) (k : Nat) (h0 : 0 ≤ sep) (h1 : sep ≤ 255) (h : scan sep 0 (L s) 0 = some k) :
    k < s.size ∧ (s.extract 0 k).size = k ∧ s.extract 0 k ++ ofB sep ++ s.extract (k + 1) s.size = s ∧
    scan sep 0 (L (s.extract 0 k ++ ofB sep ++ x)) 0 = some k ∧ (s.extract 0 k ++ ofB sep ++ x).extract 0 k = s.extract 0 k ∧ (s.extract 0 k ++ ofB sep ++ x).extract (k + 1) (s.extract 0 k ++ ofB sep ++ x).size = x ∧
    scan sep 0 (L (s.extract 0 k)) 0 = none ∧
    scan sep 0 (L (s ++ x)) 0 = some k ∧ (s ++ x).extract 0 k = s.extract 0 k ∧ (s ++ x).extract (k + 1) (s ++ x).size = s.extract (k + 1) s.size ++ x := by
  obtain ⟨pre, post, e, ek, hn, hy⟩ := scan_some sep (L s) 0 0 k h
  have ek : pre.length = k := by omega
  have hlen : (L s).length = s.size := L_length s
  have hks : k < s.size := by rw [← hlen, e]; simp; omega
  have hB : L (s.extract 0 k) = pre := by rw [L_extract, e, ← ek]; simp
  have hX : L (s.extract (k + 1) s.size) = post := by
    rw [L_extract, ← hlen, e, ← ek]
    rw [show pre ++ sep :: post = (pre ++ [sep]) ++ post from by simp, List.drop_left' (by simp)]
    exact List.take_of_length_le (by simp; omega)
  have hBs : (s.extract 0 k).size = k := by rw [← L_length, hB, ek]
  have hS := L_ofB sep h0 h1
  have hBSx : L (s.extract 0 k ++ ofB sep ++ x) = pre ++ sep :: L x := by rw [L_append, L_append, hB, hS]; simp
  have hsx : L (s ++ x) = pre ++ sep :: (post ++ L x) := by rw [L_append, e]; simp
  have hsz : (s.extract 0 k ++ ofB sep ++ x).size = k + 1 + (L x).length := by rw [← L_length, hBSx]; simp; omega
  have hsz2 : (s ++ x).size = k + 1 + (post ++ L x).length := by rw [← L_length, hsx]; simp; omega
  refine ⟨hks, hBs, ?_, ?_, ?_, ?_, ?_, ?_, ?_, ?_⟩
  · apply L_inj; rw [L_append, L_append, hB, hX, hS, e]; simp
  · rw [hBSx]; exact hy _
  · apply L_inj; rw [L_extract, hBSx, hB, ← ek]; simp
  · apply L_inj; rw [hsz, L_extract, hBSx, ← ek, show pre ++ sep :: L x = (pre ++ [sep]) ++ L x from by simp, List.drop_left' (by simp)]
    exact List.take_of_length_le (by omega)
  · rw [hB]; exact hn
  · rw [hsx]; exact hy _
  · apply L_inj; rw [L_extract, hsx, hB, ← ek]; simp
  · apply L_inj; rw [hsz2, L_extract, hsx, L_append, hX, ← ek, show pre ++ sep :: (post ++ L x) = (pre ++ [sep]) ++ (post ++ L x) from by simp, List.drop_left' (by simp)]
    exact List.take_of_length_le (by omega)

end Go.Proofs.Qxb6617827a
