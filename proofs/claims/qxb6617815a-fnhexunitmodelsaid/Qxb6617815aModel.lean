/-
  SEAT b6617815a: THE WALKS OF FnHexUnitModel.
-/
import Derived.Test.Qxb6617815aCopy
namespace Go.Proofs.Qxb6617815a
open Go.RowKit

set_option maxHeartbeats 1000000 in
theorem model_some (x : Addr) (cap : Nat) (l : List Int) (w : World) (h0 : Lies w (some x) l) (hl : l.length ≤ 1048576) :
    Calls Try.prog 3 #[.slice (some x) l.length cap] w fun e w' => e = .returned (.bool true) ∧ Below w.heap.size w w' := by
  have qn := neq_nil
  go_enter Try.func3, Try.ntmps3
  go_wp2_with (first
    | (go_at_call 8; go_in)
    | (at_make; refine make_law rfl _ _ rfl _ l.length rfl rfl rfl (by omega) ?_; intro w1 cur hcur hb1)
    | (with_reducible refine at_dst 24 ?_; refine copy_all rfl (.tmp 22) (.tmp 23) rfl _ l.length _ _ rfl rfl l rfl cur hcur _ w rfl h0 hb1 (Nat.le_refl _) ?_; intro w2 hl2 hb2; clear hcur hb1)
    | (go_at_call 9; refine (zzHexUnit_any _ _ l _ hl hl2).mono ?_; rintro e w3 ⟨rfl, rfl⟩))
  go_loop [6, 7, 8] (fun a p i => ∃ m : Nat, m ≤ l.length ∧ i = .int .i64 ((m : Int) - 1) ∧ allH (l.drop m) = true ∧ a = .int .u32 (val (l.drop m) % 4294967296) ∧ p = .int .u32 ((16 : Int) ^ (l.length - m) % 4294967296)) (fun _ _ i => (intOf i + 1).toNat)
  case atStart => exact ⟨l.length, Nat.le_refl _, by simp, by simp [allH], by simp [val], by simp⟩
  case round =>
    obtain ⟨m, hm, rfl, ha, rfl, rfl⟩ := hrel
    by_cases hlt : 0 < m
    · obtain ⟨k, rfl⟩ : ∃ k, m = k + 1 := ⟨m - 1, by omega⟩
      obtain ⟨b, off, c, e0, hcell, hcc, hc0, hc1⟩ := hl2.byte k (by omega)
      simp only [Option.some.injEq, Addr.mk.injEq, and_true] at e0
      obtain ⟨rfl, rfl⟩ := e0
      simp only [Nat.zero_add] at hcell
      rw [show ((k + 1 : Nat) : Int) - 1 = (k : Int) from by omega]
      generalize ea : val (l.drop (k + 1)) % 4294967296 = A
      generalize ep : (16 : Int) ^ (l.length - (k + 1)) % 4294967296 = P
      have hk : (k : Int) < (l.length : Int) := by omega
      cases hh : isHex c
      · have hf : allH l = false := allH_bad (k := k) (by omega) (by rw [← hcc]; exact hh)
        have hr : hxR l = 0 := by simp [hxR, hf]
        clear ea ep hcc ha
        go_wp2_with (go_at_call 10; refine (digit_any _ hc0 hc1 _).mono ?_; rintro e w' ⟨rfl, rfl⟩)
        go_ret
        exact ⟨rfl, hb2⟩
      · have S : Hid _ := model_step l k c A P (by omega) hcc hh ha ea ep
        clear ea ep hcc ha
        go_wp2_with (go_at_call 10; refine (digit_any _ hc0 hc1 _).mono ?_; rintro e w' ⟨rfl, rfl⟩)
        go_round
        case rel => exact ⟨k, by omega, rfl, S.out.1, by rw [S.out.2.1], by rw [S.out.2.2]⟩
        case measure => simp [intOf]
    · obtain rfl : m = 0 := by omega
      have hA : allH l = true := by simpa using ha
      have S : Hid ((hxR l == wrap32 (val (l.drop 0) % 4294967296)) = true) := by
        have : hxR l = wrap32 (val (l.drop 0) % 4294967296) := by rw [wrap32_emod, List.drop_zero, hxR, if_pos hA]
        exact beq_iff_eq.2 this
      clear ha
      generalize val (l.drop 0) % 4294967296 = A at S
      generalize (16 : Int) ^ (l.length - 0) % 4294967296 = P
      go_wp2
      go_ret
      exact ⟨retB S.out, hb2⟩

set_option maxHeartbeats 400000 in
theorem model_nil (w : World) :
    Calls Try.prog 3 #[.slice none 0 0] w fun e w' => e = .returned (.bool true) ∧ Below w.heap.size w w' := by
  have qn := neq_nil
  have hR : hxR [] = 0 := by simp [hxR, allH, val, wrap32]
  have hA : allH [] = true := rfl
  go_enter Try.func3, Try.ntmps3
  go_wp2_with (first
    | (go_at_call 8; go_in)
    | (go_at_call 9; refine (zzHexUnit_any none 0 [] _ (by simp) (Lies.nil _ _)).mono ?_; rintro e w3 ⟨rfl, rfl⟩; rw [hR, hA]))
  refine wp_loop_rounds 1 ?_
  rw [rounds_succ]
  go_wp2
  go_ret
  exact ⟨rfl, Below.refl _ _⟩

theorem model_big (ao : Option Addr) (len cap : Nat) (w : World) (hl : ¬ len ≤ 1048576) :
    Calls Try.prog 3 #[.slice ao len cap] w fun e w' => e = .returned (.bool true) ∧ Below w.heap.size w w' := by
  have h : (1048576 : Int) < (len : Int) := by omega
  go_enter Try.func3, Try.ntmps3
  go_wp2
  go_ret
  exact ⟨rfl, Below.refl _ _⟩

end Go.Proofs.Qxb6617815a
