/-
  SEAT b6617827a: THE CONTRACTS OF byteText, indexOfByte.
-/
import Derived.Test.Qxb6617827aCut
import Derived.Test.Qxb6617827aRoundPlain
import Derived.WalkSpells
import Derived.Laws.IdiomStrings
namespace Go.Proofs.Qxb6617827a
open Go.RowKit

theorem retI {k : IntKind} {a b : Int} (h : a = b) : Ending.returned (.int k a) = .returned (.int k b) := by rw [h]
theorem retB {p q : Bool} (h : p = q) : Ending.returned (.bool p) = .returned (.bool q) := by rw [h]

theorem conv_one (c : Int) (h0 : 0 ≤ c) (h1 : c ≤ 255) (w : World) :
    (convert 31 9 (.slice (some ⟨w.heap.size, 0, none⟩) 1 1)).run Try.prog (w.alloc (.cells #[.int .u8 c] 5)) = .ok (.string (ofB c)) (w.alloc (.cells #[.int .u8 c] 5)) := by
  have := run_convert_bytes_back (P := Try.prog) (w.alloc (.cells #[.int .u8 c] 5)) 31 9 5 ⟨w.heap.size, 0, none⟩ 1 [UInt8.ofNat c.toNat] Try.underlying31 Try.underlying5 Try.underlying9 (by
    intro j hj
    have hj0 : j = 0 := by simp at hj; omega
    subst hj0
    rw [show (⟨w.heap.size, 0, none⟩ : Addr).add 0 = ⟨w.heap.size, 0, none⟩ from rfl, cell_of_row _ _ _ #[.int .u8 c] 5 (0, 0) (heap_alloc_new _ _)]
    simp; omega)
  exact this

set_option maxHeartbeats 400000 in
theorem byteText_any (c : Int) (w : World) (h0 : 0 ≤ c) (h1 : c ≤ 255) :
    Calls Try.prog 11 #[.int .u8 c] w fun e w' => e = .returned (.string (ofB c)) ∧ w' = w.alloc (.cells #[.int .u8 c] 5) := by
  have hc := conv_one c h0 h1
  go_enter Try.func11, Try.ntmps11
  go_wp2
  go_ret
  exact ⟨rfl, rfl⟩

set_option maxHeartbeats 400000 in
theorem index_any (s : ByteArray) (c : Int) (w : World) (hs : s.size ≤ 2097152) (I : Int) (hI : ix c (L s) 0 = I) :
    Calls Try.prog 12 #[.string s, .int .u8 c] w fun e w' => e = .returned (.int .i64 I) ∧ w' = w := by
  have HI : Hid (ix c ((L s).drop 0) 0 = I) := hI
  clear hI
  go_enter Try.func12, Try.ntmps12
  go_wp2
  go_loop [5] (fun i => ∃ (k : Nat), k ≤ s.size ∧ i = .int .i64 k ∧ Hid (ix c ((L s).drop k) k = I)) (fun i => s.size - (intOf i).toNat)
  case atStart => exact ⟨0, by omega, rfl, HI⟩
  case round =>
    obtain ⟨k, hk, rfl, HK⟩ := hrel
    clear HI
    by_cases hlt : k < s.size
    · have hd := L_drop s k hlt
      by_cases h3 : (s[k].toNat : Int) = c
      · have F : Hid ((k : Int) = I) := by
          have := HK.out; rw [hd, ix, if_pos h3] at this; exact this
        have h3' : ((s[k].toNat : Int) == c) = true := by simpa using h3
        clear hd HK h3
        go_wp2
        go_ret
        exact ⟨retI F.out, rfl⟩
      · have F : Hid (ix c ((L s).drop (k + 1)) (k + 1) = I) := by
          have := HK.out; rw [hd, ix, if_neg h3] at this; exact this
        have h3' : ((s[k].toNat : Int) == c) = false := by simpa using h3
        clear hd HK h3
        go_wp2
        go_round
        case rel => exact ⟨k + 1, by omega, by go_num, F⟩
        case measure => simp [intOf]; omega
    · have F : Hid ((-1 : Int) = I) := by
        have := HK.out; rw [L_end s k hlt] at this; exact this
      clear HK
      go_wp2
      go_ret
      exact ⟨retI F.out, rfl⟩

theorem zzCut_to (s : ByteArray) (sep : Int) (w : World) (hs : s.size ≤ 1048576) (k : Nat) (hA : scan sep 0 (L s) 0 = some k) (B X : ByteArray) (hB : s.extract 0 k = B) (hX : s.extract (k + 1) s.size = X) :
    Calls Try.prog 8 #[.string s, .int .u8 sep] w fun e w' => e = .returned (.tuple #[.string B, .string X]) ∧ ∃ n, w' = w.drewN n := by
  subst hB hX; exact zzCut_any s sep w hs (some k) hA

end Go.Proofs.Qxb6617827a
