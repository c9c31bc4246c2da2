/-
  SEAT b6617827a: THE WALKS OF FnCutUnquotedRoundTripAndPlainCut.
-/
import Derived.Test.Qxb6617827aSmall
import Derived.Deep.CutRange
import Derived.Deep.RegionWith
namespace Go.Proofs.Qxb6617827a
open Go.RowKit

theorem Grown.drewN' {W w' : World} (h : Grown W w') (n : Nat) : Grown W (w'.drewN n) := h

set_option maxRecDepth 100000 in
set_option maxHeartbeats 2000000 in
theorem round_some (s x : ByteArray) (sep : Int) (w : World) (hs : s.size ≤ 524288) (hx : x.size ≤ 524288) (h0 : 0 ≤ sep) (h1 : sep ≤ 255) (k : Nat) (hA : scan sep 0 (L s) 0 = some k) :
    Calls Try.prog 4 #[.string s, .int .u8 sep, .string x] w fun e w' => e = .returned (.bool true) ∧ Grown w w' := by
  have H := found s x sep k h0 h1 hA
  have HP : Hid (∀ c ∈ L s, c ≠ 34) → Hid (ix sep (L s) 0 = k) := by
    intro h
    rcases scan_plain sep (L s) 0 h with h | ⟨k', e1, e2⟩
    · rw [hA] at h; cases h.1
    · rw [hA] at e1; obtain rfl := Option.some.inj e1; exact e2
  obtain ⟨B, hB⟩ : ∃ B, s.extract 0 k = B := ⟨_, rfl⟩
  obtain ⟨X, hX⟩ : ∃ X, s.extract (k + 1) s.size = X := ⟨_, rfl⟩
  obtain ⟨ST, hST⟩ : ∃ ST, ofB sep = ST := ⟨_, rfl⟩
  rw [hB, hX, hST] at H
  obtain ⟨hks, hBs, e1, s2, b2, a2, s3, s4, b4, a4⟩ := H
  have hSTs : ST.size = 1 := by rw [← hST]; rfl
  have hXs : X.size ≤ 524288 := by rw [← hX]; simp; omega
  have hBs1 : B.size ≤ 524288 := by omega
  have hBs2 : B.size < s.size := by omega
  have hSTs1 : ST.size ≤ 1 := by omega
  have HB : Hid (s.extract 0 k = B) := hB
  have HX : Hid (s.extract (k + 1) s.size = X) := hX
  have HST : Hid (ofB sep = ST) := hST
  have HA : Hid (scan sep 0 (L s) 0 = some k) := hA
  have S2 : Hid (scan sep 0 (L (B ++ ST ++ x)) 0 = some k) := s2
  have B2 : Hid ((B ++ ST ++ x).extract 0 k = B) := b2
  have A2 : Hid ((B ++ ST ++ x).extract (k + 1) (B ++ ST ++ x).size = x) := a2
  have S3 : Hid (scan sep 0 (L B) 0 = none) := s3
  have S4 : Hid (scan sep 0 (L (s ++ x)) 0 = some k) := s4
  have B4 : Hid ((s ++ x).extract 0 k = B) := b4
  have A4 : Hid ((s ++ x).extract (k + 1) (s ++ x).size = X ++ x) := a4
  clear hB hX hST hA s2 b2 a2 s3 s4 b4 a4 hBs hSTs
  obtain ⟨Q, hQ⟩ : ∃ Q, ix 34 (L s) 0 = Q := ⟨_, rfl⟩
  have HQ : Hid (ix 34 (L s) 0 = Q) := hQ
  clear hQ
  go_enter Try.func4, Try.ntmps4
  go_upto_if 40 with (first
    | (go_at_call 10; go_in)
    | (go_at_call 8; refine (zzCut_to _ _ _ (by omega) k HA.out B X HB.out HX.out).mono ?_; rintro e w' ⟨rfl, n, rfl⟩)
    | (go_at_call 11; refine (byteText_any _ _ h0 h1).mono ?_; rintro e w' ⟨rfl, rfl⟩; rw [HST.out]))
  go_upto_if 106 with (first
    | (go_at_call_of 8 ST; refine (zzCut_to _ _ _ (by simp; omega) k S2.out B x B2.out A2.out).mono ?_; rintro e w' ⟨rfl, n2, rfl⟩)
    | (go_at_call_of 8 x; refine (zzCut_to _ _ _ (by simp; omega) k S4.out B (X ++ x) B4.out A4.out).mono ?_; rintro e w' ⟨rfl, n4, rfl⟩)
    | (go_at_call_of 8 B; refine (zzCut_any _ _ _ (by omega) none S3.out).mono ?_; rintro e w' ⟨rfl, n3, rfl⟩; simp only [cutV])
    | (go_at_call 12; refine (index_any _ _ _ (by omega) Q HQ.out).mono ?_; rintro e w' ⟨rfl, rfl⟩))
  by_cases hq : 0 ≤ Q
  · go_wp2
    go_ret
    exact ⟨rfl, by repeat (first | exact Grown.refl _ | apply Grown.drewN' | apply Grown.alloc)⟩
  · have HI : Hid (ix sep (L s) 0 = (k : Int)) := HP (fun c hc => ix_none 34 (L s) 0 (by rw [HQ.out]; omega) c hc)
    have hkI : (k : Int) < (s.size : Int) := by omega
    have hBx := HB.out
    have hXx := HX.out
    go_wp2_with (go_at_call 12; refine (index_any _ _ _ (by omega) _ HI.out).mono ?_; rintro e w' ⟨rfl, rfl⟩)
    go_ret
    exact ⟨retB (by simp), by repeat (first | exact Grown.refl _ | apply Grown.drewN' | apply Grown.alloc)⟩

set_option maxRecDepth 100000 in
set_option maxHeartbeats 2000000 in
theorem round_none (s x : ByteArray) (sep : Int) (w : World) (hs : s.size ≤ 524288) (hx : x.size ≤ 524288) (h0 : 0 ≤ sep) (h1 : sep ≤ 255) (hA : scan sep 0 (L s) 0 = none) :
    Calls Try.prog 4 #[.string s, .int .u8 sep, .string x] w fun e w' => e = .returned (.bool true) ∧ Grown w w' := by
  have HP : Hid (∀ c ∈ L s, c ≠ 34) → Hid (ix sep (L s) 0 = -1) := by
    intro h
    rcases scan_plain sep (L s) 0 h with h | ⟨k', e1, e2⟩
    · exact h.2
    · rw [hA] at e1; cases e1
  have HA : Hid (scan sep 0 (L s) 0 = none) := hA
  clear hA
  obtain ⟨Q, hQ⟩ : ∃ Q, ix 34 (L s) 0 = Q := ⟨_, rfl⟩
  have HQ : Hid (ix 34 (L s) 0 = Q) := hQ
  clear hQ
  go_enter Try.func4, Try.ntmps4
  go_upto_if 106 with (first
    | (go_at_call 10; go_in)
    | (go_at_call 8; refine (zzCut_any _ _ _ (by omega) none HA.out).mono ?_; rintro e w' ⟨rfl, n, rfl⟩; simp only [cutV])
    | (go_at_call 11; refine (byteText_any _ _ h0 h1).mono ?_; rintro e w' ⟨rfl, rfl⟩)
    | (go_at_call 12; refine (index_any _ _ _ (by omega) Q HQ.out).mono ?_; rintro e w' ⟨rfl, rfl⟩))
  by_cases hq : 0 ≤ Q
  · go_wp2
    go_ret
    exact ⟨rfl, by repeat (first | exact Grown.refl _ | apply Grown.drewN' | apply Grown.alloc)⟩
  · have HI : Hid (ix sep (L s) 0 = -1) := HP (fun c hc => ix_none 34 (L s) 0 (by rw [HQ.out]; omega) c hc)
    go_wp2_with (go_at_call 12; refine (index_any _ _ _ (by omega) _ HI.out).mono ?_; rintro e w' ⟨rfl, rfl⟩)
    go_ret
    exact ⟨retB (by simp), by repeat (first | exact Grown.refl _ | apply Grown.drewN' | apply Grown.alloc)⟩

set_option maxHeartbeats 400000 in
theorem round_big (s x : ByteArray) (sep : Int) (w : World) (h : ¬ s.size ≤ 524288) :
    Calls Try.prog 4 #[.string s, .int .u8 sep, .string x] w fun e w' => e = .returned (.bool true) ∧ Grown w w' := by
  have h' : (524288 : Int) < (s.size : Int) := by omega
  go_enter Try.func4, Try.ntmps4
  go_wp2
  all_goals
    go_ret
    exact ⟨rfl, Grown.refl _⟩

set_option maxHeartbeats 400000 in
theorem round_big2 (s x : ByteArray) (sep : Int) (w : World) (h1 : s.size ≤ 524288) (h : ¬ x.size ≤ 524288) :
    Calls Try.prog 4 #[.string s, .int .u8 sep, .string x] w fun e w' => e = .returned (.bool true) ∧ Grown w w' := by
  have h' : (524288 : Int) < (x.size : Int) := by omega
  go_enter Try.func4, Try.ntmps4
  go_wp2
  all_goals
    go_ret
    exact ⟨rfl, Grown.refl _⟩

end Go.Proofs.Qxb6617827a
