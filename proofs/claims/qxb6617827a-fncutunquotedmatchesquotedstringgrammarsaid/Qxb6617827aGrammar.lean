/-
  SEAT b6617827a: THE WALK OF FnCutUnquotedMatchesQuotedStringGrammar.
-/
import Derived.Test.Qxb6617827aCut
namespace Go.Proofs.Qxb6617827a
open Go.RowKit

theorem grown_drewN (w : World) (n : Nat) : Grown w (w.drewN n) := Grown.refl w

set_option maxHeartbeats 400000 in
theorem gram_walk (s : ByteArray) (sep : Int) (w : World) (hs : s.size ≤ 1048576) :
    Calls Try.prog 3 #[.string s, .int .u8 sep] w fun e w' => e = .returned (.bool true) ∧ Grown w w' := by
  obtain ⟨A, hA⟩ : ∃ A, scan sep 0 (L s) 0 = A := ⟨_, rfl⟩
  have HA : Hid (scan sep 0 (L s) 0 = A) := hA
  clear hA
  cases A with
  | none =>
    go_enter Try.func3, Try.ntmps3
    go_wp2_with (first
      | (go_at_call 7; go_in)
      | (go_at_call 8; refine (zzCut_any _ _ _ hs none HA.out).mono ?_; rintro e w' ⟨rfl, n, rfl⟩; simp only [cutV])
      | (go_at_call 9; refine (grammar_any _ _ _ hs none HA.out).mono ?_; rintro e w' ⟨rfl, m, rfl⟩; simp only [cutV]))
    go_ret
    exact ⟨rfl, grown_drewN _ _⟩
  | some k =>
    go_enter Try.func3, Try.ntmps3
    go_wp2_with (first
      | (go_at_call 7; go_in)
      | (go_at_call 8; refine (zzCut_any _ _ _ hs (some k) HA.out).mono ?_; rintro e w' ⟨rfl, n, rfl⟩; simp only [cutV])
      | (go_at_call 9; refine (grammar_any _ _ _ hs (some k) HA.out).mono ?_; rintro e w' ⟨rfl, m, rfl⟩; simp only [cutV]))
    go_ret
    exact ⟨rfl, grown_drewN _ _⟩

theorem gram_big (s : ByteArray) (sep : Int) (w : World) (hs : ¬ s.size ≤ 1048576) :
    Calls Try.prog 3 #[.string s, .int .u8 sep] w fun e w' => e = .returned (.bool true) ∧ Grown w w' := by
  have h : (1048576 : Int) < (s.size : Int) := by omega
  go_enter Try.func3, Try.ntmps3
  go_wp2
  go_ret
  exact ⟨rfl, Grown.refl _⟩

end Go.Proofs.Qxb6617827a
