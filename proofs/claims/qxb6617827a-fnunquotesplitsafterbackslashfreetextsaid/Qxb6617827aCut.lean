/-
  SEAT b6617827a: THE CONTRACTS OF cutUnquoted, ZZcutUnquoted, quotedStringEnd, cutByGrammar.
-/
import Derived.Test.Qxb6617827aProg
import Derived.Test.Qxb6617827aPlain
import Derived.BigQuiet
import Derived.Deep.QuietTactic
namespace Go.Proofs.Qxb6617827a
open Go.RowKit

/-- what a cut answers -/
def cutV (s : ByteArray) : Option Nat → Value
  | none => .tuple #[.string s, .string ⟨#[]⟩]
  | some k => .tuple #[.string (s.extract 0 k), .string (s.extract (k + 1) s.size)]
theorem retN {s : ByteArray} {A : Option Nat} (h : A = none) : Ending.returned (.tuple #[.string s, .string ⟨#[]⟩]) = .returned (cutV s A) := by rw [h]; rfl
theorem retK {s : ByteArray} {A : Option Nat} {k : Nat} (h : A = some k) : Ending.returned (.tuple #[.string (s.extract 0 k), .string (s.extract (k + 1) s.size)]) = .returned (cutV s A) := by rw [h]; rfl

set_option maxHeartbeats 1000000 in
theorem cut_any (s : ByteArray) (sep : Int) (w : World) (hs : s.size ≤ 1048576) (A : Option Nat) (hA : scan sep 0 (L s) 0 = A) :
    Calls Try.prog 18 #[.string s, .int .u8 sep] w fun e w' => e = .returned (cutV s A) ∧ ∃ n, w' = w.drewN n := by
  have HA : Hid (scan sep 0 (L s) 0 = A) := hA
  clear hA
  go_enter Try.func18, Try.ntmps18
  go_wp2
  go_loop [6, 7] (fun q i => ∃ (k : Nat) (b : Bool), k ≤ s.size + 1 ∧ i = .int .i64 k ∧ q = .bool b ∧ Hid (scan sep (cond b 1 0) ((L s).drop k) k = A)) (fun _ i => s.size + 1 - (intOf i).toNat)
  case atStart => exact ⟨0, false, by omega, rfl, rfl, HA⟩
  case round =>
    obtain ⟨k, b, hk, rfl, rfl, HK⟩ := hrel
    clear HA
    by_cases hlt : k < s.size
    · have hd := L_drop s k hlt
      cases b
      · by_cases h2 : (s[k].toNat : Int) = 34
        · have F : Hid (scan sep 1 ((L s).drop (k + 1)) (k + 1) = A) := by
            have := HK.out; rw [hd, h2] at this; rw [← this]; exact (scan_out_quote _ _ _).symm
          clear hd HK
          go_wp2
          go_round
          case rel => exact ⟨k + 1, true, by omega, by go_num, rfl, F⟩
          case measure => simp [intOf]; omega
        · have h2' : ((s[k].toNat : Int) == 34) = false := by simpa using h2
          by_cases h3 : (s[k].toNat : Int) = sep
          · have F : Hid (A = some k) := by
              have := HK.out; rw [hd, h3] at this; rw [← this]; exact scan_out_sep _ _ _ (by rw [← h3]; exact h2)
            have h3' : ((s[k].toNat : Int) == sep) = true := by simpa using h3
            clear hd HK h3 h2
            go_wp2
            go_quiet (fail)
            go_wp2
            go_ret2
            exact ⟨retK F.out, _, rfl⟩
          · have F : Hid (scan sep 0 ((L s).drop (k + 1)) (k + 1) = A) := by
              have := HK.out; rw [hd] at this; rw [← this]; exact (scan_out_other _ _ _ _ h2 h3).symm
            have h3' : ((s[k].toNat : Int) == sep) = false := by simpa using h3
            clear hd HK h3 h2
            go_wp2
            go_round
            case rel => exact ⟨k + 1, false, by omega, by go_num, rfl, F⟩
            case measure => simp [intOf]; omega
      · by_cases h1 : (s[k].toNat : Int) = 92
        · have F : Hid (scan sep 1 ((L s).drop (k + 2)) (k + 2) = A) := by
            have := HK.out; rw [hd, h1] at this; rw [← this]
            show _ = scan sep 1 (92 :: (L s).drop (k + 1)) k
            rw [scan_back, List.drop_drop]
          clear hd HK
          go_wp2
          go_round
          case rel => exact ⟨k + 2, true, by omega, by go_num, rfl, F⟩
          case measure => simp [intOf]; omega
        · have h1' : ((s[k].toNat : Int) == 92) = false := by simpa using h1
          by_cases h2 : (s[k].toNat : Int) = 34
          · have F : Hid (scan sep 0 ((L s).drop (k + 1)) (k + 1) = A) := by
              have := HK.out; rw [hd, h2] at this; rw [← this]; exact (scan_in_quote _ _ _).symm
            clear hd HK h1 h1'
            go_wp2
            go_round
            case rel => exact ⟨k + 1, false, by omega, by go_num, rfl, F⟩
            case measure => simp [intOf]; omega
          · have h2' : ((s[k].toNat : Int) == 34) = false := by simpa using h2
            have F : Hid (scan sep 1 ((L s).drop (k + 1)) (k + 1) = A) := by
              have := HK.out; rw [hd] at this; rw [← this]; exact (scan_in_other _ _ _ _ h1 h2).symm
            clear hd HK h1 h2
            go_wp2
            go_round
            case rel => exact ⟨k + 1, true, by omega, by go_num, rfl, F⟩
            case measure => simp [intOf]; omega
    · have F : Hid (A = none) := by
        have := HK.out; rw [L_end s k hlt, scan_nil] at this; exact this.symm
      clear HK
      go_wp2
      go_ret2
      exact ⟨retN F.out, 0, rfl⟩

theorem drewN_drewN (w : World) (n m : Nat) : (w.drewN n).drewN m = w.drewN (n + m) := by
  simp [World.drewN, Nat.add_assoc]

set_option maxHeartbeats 400000 in
theorem zzCut_any (s : ByteArray) (sep : Int) (w : World) (hs : s.size ≤ 1048576) (A : Option Nat) (hA : scan sep 0 (L s) 0 = A) :
    Calls Try.prog 8 #[.string s, .int .u8 sep] w fun e w' => e = .returned (cutV s A) ∧ ∃ n, w' = w.drewN n := by
  have HA : Hid (scan sep 0 (L s) 0 = A) := hA
  clear hA
  cases A with
  | none =>
    go_enter Try.func8, Try.ntmps8
    go_wp2_with (go_at_call 18; refine (cut_any _ _ _ hs none HA.out).mono ?_; rintro e w' ⟨rfl, n, rfl⟩; simp only [cutV])
    go_ret2
    exact ⟨rfl, _, rfl⟩
  | some k =>
    go_enter Try.func8, Try.ntmps8
    go_wp2_with (go_at_call 18; refine (cut_any _ _ _ hs (some k) HA.out).mono ?_; rintro e w' ⟨rfl, n, rfl⟩; simp only [cutV])
    go_ret2
    exact ⟨rfl, _, rfl⟩

set_option maxHeartbeats 1000000 in
theorem end_any (s : ByteArray) (i : Int) (k : Nat) (hi : i = (k : Int)) (sep : Int) (w : World) (hs : s.size ≤ 1048576) (hk : k < s.size) (A : Option Nat) (hA : scan sep 1 ((L s).drop (k + 1)) (k + 1) = A) :
    Calls Try.prog 19 #[.string s, .int .i64 i] w fun e w' => ∃ j : Nat, e = .returned (.int .i64 j) ∧ k < j ∧ j ≤ s.size ∧ scan sep 0 ((L s).drop j) j = A ∧ w' = w := by
  have HA : Hid (scan sep 1 ((L s).drop (k + 1)) (k + 1) = A) := hA
  clear hA
  subst hi
  go_enter Try.func19, Try.ntmps19
  go_wp2
  go_loop [5] (fun i => ∃ (j : Nat), k < j ∧ j ≤ s.size + 1 ∧ i = .int .i64 j ∧ Hid (scan sep 1 ((L s).drop j) j = A)) (fun i => s.size + 1 - (intOf i).toNat)
  case atStart => exact ⟨k + 1, by omega, by omega, by go_num, HA⟩
  case round =>
    obtain ⟨j, hj1, hj2, rfl, HJ⟩ := hrel
    clear HA
    by_cases hlt : j < s.size
    · have hd := L_drop s j hlt
      by_cases h2 : (s[j].toNat : Int) = 34
      · have F : Hid (scan sep 0 ((L s).drop (j + 1)) (j + 1) = A) := by
          have := HJ.out; rw [hd, h2] at this; rw [← this]; exact (scan_in_quote _ _ _).symm
        clear hd HJ
        go_wp2
        go_ret
        exact ⟨j + 1, rfl, by omega, by omega, F.out, rfl⟩
      · have h2' : ((s[j].toNat : Int) == 34) = false := by simpa using h2
        by_cases h1 : (s[j].toNat : Int) = 92
        · have F : Hid (scan sep 1 ((L s).drop (j + 2)) (j + 2) = A) := by
            have := HJ.out; rw [hd, h1] at this; rw [← this]
            show _ = scan sep 1 (92 :: (L s).drop (j + 1)) j
            rw [scan_back, List.drop_drop]
          clear hd HJ h2 h2'
          go_wp2
          go_round
          case rel => exact ⟨j + 2, by omega, by omega, by go_num, F⟩
          case measure => simp [intOf]; omega
        · have h1' : ((s[j].toNat : Int) == 92) = false := by simpa using h1
          have F : Hid (scan sep 1 ((L s).drop (j + 1)) (j + 1) = A) := by
            have := HJ.out; rw [hd] at this; rw [← this]; exact (scan_in_other _ _ _ _ h1 h2).symm
          clear hd HJ h1 h2
          go_wp2
          go_round
          case rel => exact ⟨j + 1, by omega, by omega, by go_num, F⟩
          case measure => simp [intOf]; omega
    · have F : Hid (scan sep 0 ((L s).drop s.size) s.size = A) := by
        have := HJ.out; rw [L_end s j hlt, scan_nil] at this
        rw [L_end s s.size (by omega), scan_nil]; exact this
      clear HJ
      go_wp2
      go_ret
      exact ⟨s.size, rfl, by omega, by omega, F.out, rfl⟩

set_option maxHeartbeats 1000000 in
theorem grammar_any (s : ByteArray) (sep : Int) (w : World) (hs : s.size ≤ 1048576) (A : Option Nat) (hA : scan sep 0 (L s) 0 = A) :
    Calls Try.prog 9 #[.string s, .int .u8 sep] w fun e w' => e = .returned (cutV s A) ∧ ∃ n, w' = w.drewN n := by
  have HA : Hid (scan sep 0 (L s) 0 = A) := hA
  clear hA
  go_enter Try.func9, Try.ntmps9
  go_wp2
  go_loop [6] (fun i => ∃ (k : Nat), k ≤ s.size ∧ i = .int .i64 k ∧ Hid (scan sep 0 ((L s).drop k) k = A)) (fun i => s.size - (intOf i).toNat)
  case atStart => exact ⟨0, by omega, rfl, HA⟩
  case round =>
    obtain ⟨k, hk, rfl, HK⟩ := hrel
    clear HA
    by_cases hlt : k < s.size
    · have hd := L_drop s k hlt
      by_cases h2 : (s[k].toNat : Int) = 34
      · have F : Hid (scan sep 1 ((L s).drop (k + 1)) (k + 1) = A) := by
          have := HK.out; rw [hd, h2] at this; rw [← this]; exact (scan_out_quote _ _ _).symm
        clear hd HK
        go_wp2_with (go_at_call 19; refine (end_any _ _ k rfl sep _ hs hlt A F.out).mono ?_; rintro e w' ⟨j, rfl, hj1, hj2, hj3, rfl⟩)
        have HJ : Hid (scan sep 0 ((L s).drop j) j = A) := hj3
        go_round
        case rel => exact ⟨j, hj2, rfl, HJ⟩
        case measure => simp [intOf]; omega
      · have h2' : ((s[k].toNat : Int) == 34) = false := by simpa using h2
        by_cases h3 : (s[k].toNat : Int) = sep
        · have F : Hid (A = some k) := by
            have := HK.out; rw [hd, h3] at this; rw [← this]; exact scan_out_sep _ _ _ (by rw [← h3]; exact h2)
          have h3' : ((s[k].toNat : Int) == sep) = true := by simpa using h3
          clear hd HK h3 h2
          go_wp2
          go_quiet (fail)
          go_wp2
          go_ret2
          exact ⟨retK F.out, _, rfl⟩
        · have F : Hid (scan sep 0 ((L s).drop (k + 1)) (k + 1) = A) := by
            have := HK.out; rw [hd] at this; rw [← this]; exact (scan_out_other _ _ _ _ h2 h3).symm
          have h3' : ((s[k].toNat : Int) == sep) = false := by simpa using h3
          clear hd HK h3 h2
          go_wp2
          go_round
          case rel => exact ⟨k + 1, by omega, by go_num, F⟩
          case measure => simp [intOf]; omega
    · have F : Hid (A = none) := by
        have := HK.out; rw [L_end s k hlt, scan_nil] at this; exact this.symm
      clear HK
      go_wp2
      go_ret2
      exact ⟨retN F.out, 0, rfl⟩

end Go.Proofs.Qxb6617827a
