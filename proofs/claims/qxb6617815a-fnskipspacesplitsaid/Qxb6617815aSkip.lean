/-
  SEAT b6617815a: THE CONTRACTS OF isJSONSpace, skipSpace, ZZskipSpace.
-/
import Derived.Test.Qxb6617815aJoin
import Derived.Test.Qxb6617815aSkipPlain
namespace Go.Proofs.Qxb6617815a
open Go.RowKit

set_option maxHeartbeats 400000 in
theorem isSp_any (c : Int) (w : World) :
    Calls Try.prog 16 #[.int .u8 c] w fun e w' => e = .returned (.bool (isSp c)) ∧ w' = w := by
  go_enter Try.func16, Try.ntmps16
  go_wp2
  all_goals
    go_ret
    exact ⟨retB (by first | rfl | simp [isSp, *]), rfl⟩

theorem retI {k : IntKind} {a b : Int} (h : a = b) : Ending.returned (.int k a) = .returned (.int k b) := by rw [h]

set_option maxHeartbeats 1000000 in
theorem skip_any (ao : Option Addr) (cap : Nat) (l : List Int) (i : Int) (R : Nat) (w : World) (hl : l.length ≤ 1048576) (hc : Lies w ao l) (h0 : 0 ≤ i) (h1 : i ≤ 9223372036854775807) (hR : skip l i.toNat = R) :
    Calls Try.prog 22 #[.slice ao l.length cap, .int .i64 i] w fun e w' => e = .returned (.int .i64 R) ∧ w' = w := by
  obtain ⟨n, rfl⟩ := Int.eq_ofNat_of_zero_le h0
  have HR : Hid (skip l n = R) := hR
  clear hR
  go_enter Try.func22, Try.ntmps22
  go_wp2
  go_loop [1] (fun i => ∃ k : Nat, (k : Int) ≤ 9223372036854775807 ∧ i = .int .i64 k ∧ Hid (skip l k = R)) (fun i => l.length - (intOf i).toNat)
  case atStart => exact ⟨n, h1, rfl, HR⟩
  case round =>
    obtain ⟨k, hk, rfl, HK⟩ := hrel
    by_cases hlt : k < l.length
    · obtain ⟨b, off, c, rfl, hcell, hcc, hc0, hc1⟩ := hc.byte k hlt
      have Y : Hid (isSp c = true → skip l (k + 1) = R) := fun h => by rw [← skip_yes l k hlt (hcc ▸ h)]; exact HK.out
      have N : Hid (isSp c = false → (R : Int) = k) := fun h => by rw [← HK.out, skip_no l k hlt (hcc ▸ h)]
      clear hcc HK HR
      by_cases s1 : c = 32
      · have F : Hid (skip l (k + 1) = R) := Y.out (by simp [isSp, s1])
        subst s1; clear Y N
        go_wp2
        go_round
        case rel => exact ⟨k + 1, by omega, by go_num, F⟩
        case measure => simp [intOf]; omega
      by_cases s2 : c = 9
      · have F : Hid (skip l (k + 1) = R) := Y.out (by simp [isSp, s2])
        subst s2; clear Y N
        go_wp2
        go_round
        case rel => exact ⟨k + 1, by omega, by go_num, F⟩
        case measure => simp [intOf]; omega
      by_cases s3 : c = 10
      · have F : Hid (skip l (k + 1) = R) := Y.out (by simp [isSp, s3])
        subst s3; clear Y N
        go_wp2
        go_round
        case rel => exact ⟨k + 1, by omega, by go_num, F⟩
        case measure => simp [intOf]; omega
      by_cases s4 : c = 13
      · have F : Hid (skip l (k + 1) = R) := Y.out (by simp [isSp, s4])
        subst s4; clear Y N
        go_wp2
        go_round
        case rel => exact ⟨k + 1, by omega, by go_num, F⟩
        case measure => simp [intOf]; omega
      have F : Hid ((R : Int) = k) := N.out (by simp [isSp, s1, s2, s3, s4])
      clear Y N
      have t1 : (c == 32) = false := by simpa using s1
      have t2 : (c == 9) = false := by simpa using s2
      have t3 : (c == 10) = false := by simpa using s3
      have t4 : (c == 13) = false := by simpa using s4
      clear s1 s2 s3 s4
      go_wp2
      go_ret
      exact ⟨retI F.out.symm, rfl⟩
    · have F : Hid ((R : Int) = k) := by
        have := HK.out; rw [skip_out l k (by omega)] at this; rw [← this]; exact rfl
      clear HK HR
      go_wp2
      go_ret
      exact ⟨retI F.out.symm, rfl⟩

set_option maxHeartbeats 400000 in
theorem zzSkip_any (ao : Option Addr) (cap : Nat) (l : List Int) (i : Int) (R : Nat) (w : World) (hl : l.length ≤ 1048576) (hc : Lies w ao l) (h0 : 0 ≤ i) (h1 : i ≤ 9223372036854775807) (hR : skip l i.toNat = R) :
    Calls Try.prog 15 #[.slice ao l.length cap, .int .i64 i] w fun e w' => e = .returned (.int .i64 R) ∧ w' = w := by
  have H : Hid (skip l i.toNat = R) := hR
  clear hR
  go_enter Try.func15, Try.ntmps15
  go_wp2_with (go_at_call 22; refine (skip_any _ _ _ _ _ _ hl hc h0 h1 H.out).mono ?_; rintro e w' ⟨rfl, rfl⟩)
  go_ret
  exact ⟨rfl, rfl⟩

theorem zzSkip_len (ao : Option Addr) (len cap : Nat) (l : List Int) (hlen : len = l.length) (i : Int) (R : Nat) (w : World) (hl : l.length ≤ 1048576) (hc : Lies w ao l) (h0 : 0 ≤ i) (h1 : i ≤ 9223372036854775807) (hR : skip l i.toNat = R) :
    Calls Try.prog 15 #[.slice ao len cap, .int .i64 i] w fun e w' => e = .returned (.int .i64 R) ∧ w' = w := by
  subst hlen; exact zzSkip_any ao cap l i R w hl hc h0 h1 hR

end Go.Proofs.Qxb6617815a
