/-
  SEAT b6617827a: unquoting what was quoted: the plain laws of FnUnquoteSplitsAfterBackslashFreeText.
-/
import Derived.Test.Qxb6617827aUnqPlain
namespace Go.Proofs.Qxb6617827a
open Go.RowKit

theorem L_quot (t : ByteArray) : L (ofB 34 ++ t ++ ofB 34) = 34 :: (L t ++ [34]) := by
  rw [L_append, L_append, L_ofB 34 (by omega) (by omega)]; simp
theorem unqS_quot (t : ByteArray) : unqS (ofB 34 ++ t ++ ofB 34) = ofL (unq (L t)) := by
  have e := L_quot t
  have hq : isQ (L (ofB 34 ++ t ++ ofB 34)) = true := by
    rw [e, isQ]; simp
  have hi : ins (L (ofB 34 ++ t ++ ofB 34)) = L t := by
    rw [e, ins]; simp
  rw [unqS, if_pos hq, hi]

theorem unq_mem (t : ByteArray) : ∀ c ∈ unq (L t), 0 ≤ c ∧ c ≤ 255 := fun c hc => L_bd t c ((unq_bd (L t) _ (Nat.le_refl _)).2 c hc)

/-- what the law asks, of the values -/
theorem splits (a b : ByteArray) (c : Int) (h0 : 0 ≤ c) (h1 : c ≤ 255) (ha : ∀ x ∈ L a, x ≠ 92) :
    ofL (unq (L a)) = a ∧ (ofL (unq (L b))).size ≤ b.size ∧ ofL (unq (L (a ++ b))) = a ++ ofL (unq (L b)) ∧
    ofL (unq (L (a ++ (ofB 92 ++ ofB c) ++ b))) = a ++ ofB c ++ ofL (unq (L b)) := by
  have hb := unq_mem b
  refine ⟨?_, ?_, ?_, ?_⟩
  · rw [unq_all _ ha, ofL_L]
  · rw [ofL_size, ← L_length b]; exact (unq_bd (L b) _ (Nat.le_refl _)).1
  · apply L_inj
    rw [L_ofL _ (unq_mem _), L_append, L_append, unq_free _ _ ha, L_ofL _ hb]
  · apply L_inj
    rw [L_ofL _ (unq_mem _), L_append, L_append, L_append, L_append, L_append, L_ofB 92 (by omega) (by omega), L_ofB c h0 h1, L_ofL _ hb]
    rw [List.append_assoc, unq_free _ _ ha]
    show L a ++ unq (92 :: c :: L b) = _
    rw [unq_esc]; simp

end Go.Proofs.Qxb6617827a
