/-
  SEAT b6617827a: THE WALKS OF FnUnquoteSplitsAfterBackslashFreeText.
-/
import Derived.Test.Qxb6617827aUnq
import Derived.Test.Qxb6617827aSplitPlain
import Derived.Deep.RegionWith
namespace Go.Proofs.Qxb6617827a
open Go.RowKit

theorem byteText_to (c : Int) (w : World) (h0 : 0 ≤ c) (h1 : c ≤ 255) (r : ByteArray) (hr : ofB c = r) :
    Calls Try.prog 11 #[.int .u8 c] w fun e w' => e = .returned (.string r) ∧ Below w.heap.size w w' := by
  subst hr
  refine (byteText_any c w h0 h1).mono ?_
  rintro e w' ⟨rfl, rfl⟩
  exact ⟨rfl, (Below.refl _ _).alloc (Nat.le_refl _) _⟩

set_option maxHeartbeats 400000 in
theorem quoted_to (t : ByteArray) (w : World) (ht : t.size ≤ 1572864) (r : ByteArray) (hr : ofB 34 ++ t ++ ofB 34 = r) :
    Calls Try.prog 17 #[.string t] w fun e w' => e = .returned (.string r) ∧ Below w.heap.size w w' := by
  obtain ⟨S, hS⟩ : ∃ S, ofB 34 = S := ⟨_, rfl⟩
  have hSs : S.size ≤ 1 := by rw [← hS]; exact Nat.le_refl _
  rw [hS] at hr
  have HS : Hid (ofB 34 = S) := hS
  clear hS
  go_enter Try.func17, Try.ntmps17
  go_wp2_with (go_at_call 11; refine (byteText_to _ _ (by omega) (by omega) S HS.out).mono ?_; rintro e w1 ⟨rfl, hB1⟩)
  go_ret
  exact ⟨rfl, hB1⟩

theorem zzUnq_to (q t : ByteArray) (w : World) (hq : ofB 34 ++ t ++ ofB 34 = q) (ht : t.size ≤ 1572864) (r : ByteArray) (hr : ofL (unq (L t)) = r) :
    Calls Try.prog 14 #[.string q] w fun e w' => e = .returned (.string r) ∧ Below w.heap.size w w' := by
  have := zzUnq_any q w (by rw [← hq]; simp [ofB_size]; omega)
  rw [← hq, unqS_quot, hr, hq] at this
  exact this

set_option maxRecDepth 100000 in
set_option maxHeartbeats 2000000 in
theorem split_walk (a b : ByteArray) (c : Int) (w : World) (ha : a.size ≤ 524288) (hb : b.size ≤ 524288) (h0 : 0 ≤ c) (h1 : c ≤ 255) (hno : ix 92 (L a) 0 < 0) :
    Calls Try.prog 6 #[.string a, .int .u8 c, .string b] w fun e w' => e = .returned (.bool true) ∧ Below w.heap.size w w' := by
  have H := splits a b c h0 h1 (ix_none 92 (L a) 0 hno)
  obtain ⟨I, hI⟩ : ∃ I, ix 92 (L a) 0 = I := ⟨_, rfl⟩
  obtain ⟨U, hU⟩ : ∃ U, ofL (unq (L b)) = U := ⟨_, rfl⟩
  obtain ⟨S, hS⟩ : ∃ S, ofB 92 = S := ⟨_, rfl⟩
  obtain ⟨C, hC⟩ : ∃ C, ofB c = C := ⟨_, rfl⟩
  rw [hU, hS, hC] at H
  rw [hI] at hno
  obtain ⟨e1, e2, e3, e4⟩ := H
  obtain ⟨QA, hQA⟩ : ∃ q, ofB 34 ++ a ++ ofB 34 = q := ⟨_, rfl⟩
  obtain ⟨QB, hQB⟩ : ∃ q, ofB 34 ++ b ++ ofB 34 = q := ⟨_, rfl⟩
  obtain ⟨QAB, hQAB⟩ : ∃ q, ofB 34 ++ (a ++ b) ++ ofB 34 = q := ⟨_, rfl⟩
  obtain ⟨QC, hQC⟩ : ∃ q, ofB 34 ++ (a ++ (S ++ C) ++ b) ++ ofB 34 = q := ⟨_, rfl⟩
  have hSs : S.size ≤ 1 := by rw [← hS]; exact Nat.le_refl _
  have hCs : C.size ≤ 1 := by rw [← hC]; exact Nat.le_refl _
  have HI : Hid (ix 92 (L a) 0 = I) := hI
  have HU : Hid (ofL (unq (L b)) = U) := hU
  have HS : Hid (ofB 92 = S) := hS
  have HC : Hid (ofB c = C) := hC
  have HQA : Hid (ofB 34 ++ a ++ ofB 34 = QA) := hQA
  have HQB : Hid (ofB 34 ++ b ++ ofB 34 = QB) := hQB
  have HQAB : Hid (ofB 34 ++ (a ++ b) ++ ofB 34 = QAB) := hQAB
  have HQC : Hid (ofB 34 ++ (a ++ (S ++ C) ++ b) ++ ofB 34 = QC) := hQC
  have E1 : Hid (ofL (unq (L a)) = a) := e1
  have E3 : Hid (ofL (unq (L (a ++ b))) = a ++ U) := e3
  have E4 : Hid (ofL (unq (L (a ++ (S ++ C) ++ b))) = a ++ C ++ U) := e4
  have hUs : U.size ≤ 524288 := by omega
  clear hI hU hS hC hQA hQB hQAB hQC e1 e3 e4
  have hB := Below.refl w.heap.size w
  go_enter Try.func6, Try.ntmps6
  go_wp2_with (first
    | (go_at_call 16; go_in)
    | (go_at_call 12; refine (index_any _ _ _ (by omega) I HI.out).mono ?_; rintro e w' ⟨rfl, rfl⟩)
    | (go_at_call_of 11 c; refine (byteText_to _ _ h0 h1 C HC.out).mono ?_; rintro e wx ⟨rfl, hBx⟩; replace hB := hB.trans (hBx.mono hB.size); clear hBx)
    | (go_at_call 11; refine (byteText_to _ _ (by omega) (by omega) S HS.out).mono ?_; rintro e wx ⟨rfl, hBx⟩; replace hB := hB.trans (hBx.mono hB.size); clear hBx)
    | (go_at_call_of 17 (Value.string a); refine (quoted_to a _ (by omega) QA HQA.out).mono ?_; rintro e wx ⟨rfl, hBx⟩; replace hB := hB.trans (hBx.mono hB.size); clear hBx)
    | (go_at_call_of 17 (Value.string b); refine (quoted_to b _ (by omega) QB HQB.out).mono ?_; rintro e wx ⟨rfl, hBx⟩; replace hB := hB.trans (hBx.mono hB.size); clear hBx)
    | (go_at_call_of 17 (Value.string (a ++ b)); refine (quoted_to (a ++ b) _ (by simp; omega) QAB HQAB.out).mono ?_; rintro e wx ⟨rfl, hBx⟩; replace hB := hB.trans (hBx.mono hB.size); clear hBx)
    | (go_at_call_of 17 S; refine (quoted_to (a ++ (S ++ C) ++ b) _ (by simp; omega) QC HQC.out).mono ?_; rintro e wx ⟨rfl, hBx⟩; replace hB := hB.trans (hBx.mono hB.size); clear hBx)
    | (go_at_call_of 14 QA; refine (zzUnq_to QA a _ HQA.out (by omega) a E1.out).mono ?_; rintro e wx ⟨rfl, hBx⟩; replace hB := hB.trans (hBx.mono hB.size); clear hBx)
    | (go_at_call_of 14 QB; refine (zzUnq_to QB b _ HQB.out (by omega) U HU.out).mono ?_; rintro e wx ⟨rfl, hBx⟩; replace hB := hB.trans (hBx.mono hB.size); clear hBx)
    | (go_at_call_of 14 QAB; refine (zzUnq_to QAB (a ++ b) _ HQAB.out (by simp; omega) (a ++ U) E3.out).mono ?_; rintro e wx ⟨rfl, hBx⟩; replace hB := hB.trans (hBx.mono hB.size); clear hBx)
    | (go_at_call_of 14 QC; refine (zzUnq_to QC (a ++ (S ++ C) ++ b) _ HQC.out (by simp; omega) (a ++ C ++ U) E4.out).mono ?_; rintro e wx ⟨rfl, hBx⟩; replace hB := hB.trans (hBx.mono hB.size); clear hBx))
  go_ret
  exact ⟨rfl, hB⟩

set_option maxHeartbeats 400000 in
theorem split_has (a b : ByteArray) (c : Int) (w : World) (ha : a.size ≤ 524288) (hb : b.size ≤ 524288) (hno : ¬ ix 92 (L a) 0 < 0) :
    Calls Try.prog 6 #[.string a, .int .u8 c, .string b] w fun e w' => e = .returned (.bool true) ∧ Below w.heap.size w w' := by
  obtain ⟨I, hI⟩ : ∃ I, ix 92 (L a) 0 = I := ⟨_, rfl⟩
  rw [hI] at hno
  have HI : Hid (ix 92 (L a) 0 = I) := hI
  clear hI
  go_enter Try.func6, Try.ntmps6
  go_wp2_with (first
    | (go_at_call 16; go_in)
    | (go_at_call 12; refine (index_any _ _ _ (by omega) I HI.out).mono ?_; rintro e w' ⟨rfl, rfl⟩))
  go_ret
  exact ⟨rfl, Below.refl _ _⟩

set_option maxHeartbeats 400000 in
theorem split_big (a b : ByteArray) (c : Int) (w : World) (h : ¬ a.size ≤ 524288) :
    Calls Try.prog 6 #[.string a, .int .u8 c, .string b] w fun e w' => e = .returned (.bool true) ∧ Below w.heap.size w w' := by
  have h' : (524288 : Int) < (a.size : Int) := by omega
  go_enter Try.func6, Try.ntmps6
  go_wp2
  all_goals
    go_ret
    exact ⟨rfl, Below.refl _ _⟩

set_option maxHeartbeats 400000 in
theorem split_big2 (a b : ByteArray) (c : Int) (w : World) (ha : a.size ≤ 524288) (h : ¬ b.size ≤ 524288) :
    Calls Try.prog 6 #[.string a, .int .u8 c, .string b] w fun e w' => e = .returned (.bool true) ∧ Below w.heap.size w w' := by
  have h' : (524288 : Int) < (b.size : Int) := by omega
  go_enter Try.func6, Try.ntmps6
  go_wp2
  all_goals
    go_ret
    exact ⟨rfl, Below.refl _ _⟩

end Go.Proofs.Qxb6617827a
