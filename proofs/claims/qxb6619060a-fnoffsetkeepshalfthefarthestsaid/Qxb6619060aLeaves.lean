/-
  SEAT b6619060a: THE CONTRACTS OF span, wrap, abs, onCircle.
-/
import Derived.Test.Qxb6619060aProg
import Derived.Test.Qxb6619060aPlain
import Derived.Deep.RegionWith
import Derived.Deep.RegionHeld3
import Derived.BigQuiet
import Derived.Deep.QuietTactic
import Derived.WalkSpells
import Derived.WalkLawsBesides
namespace Go.Proofs.Qxb6619060a
open Go.RowKit

theorem retI {k : IntKind} {a b : Int} (h : a = b) : Ending.returned (.int k a) = .returned (.int k b) := by rw [h]
theorem retB {p q : Bool} (h : p = q) : Ending.returned (.bool p) = .returned (.bool q) := by rw [h]

def absP (x : Int) : Int := if x < 0 then -x else x
/-- a placing, as a value -/
def P3 (w m o : Int) : Value := .agg #[.int .u64 w, .int .u64 m, .int .i64 o]

set_option maxHeartbeats 400000 in
theorem span_any (wt m o : Int) (w : World) (h1 : 1 ≤ m) (h2 : m ≤ 2147483646) :
    Calls Try.prog 22 #[.agg #[.int .u64 wt, .int .u64 m, .int .i64 o]] w fun e w' => e = .returned (.int .i64 ((m + 1) * 4294967296)) ∧ w' = w.alloc (.cells #[.int .u64 wt, .int .u64 m, .int .i64 o] 42) := by
  go_enter Try.func22, Try.ntmps22
  go_wp2
  go_ret
  exact ⟨rfl, rfl⟩

set_option maxHeartbeats 400000 in
theorem wrap_any (v S : Int) (w : World) (h1 : -9223372036854775808 ≤ v) (h2 : v ≤ 9223372036854775807) (h3 : 0 ≤ S) (h4 : S ≤ 9223372036854775807) :
    Calls Try.prog 23 #[.int .i64 v, .int .i64 S] w fun e w' => e = .returned (.int .i64 (wrapP v S)) ∧ w' = w := by
  by_cases c1 : v < 0
  · go_enter Try.func23, Try.ntmps23
    go_wp2
    go_ret
    exact ⟨retI (by unfold wrapP; omega), rfl⟩
  · by_cases c2 : S ≤ v
    · go_enter Try.func23, Try.ntmps23
      go_wp2
      go_ret
      exact ⟨retI (by unfold wrapP; omega), rfl⟩
    · go_enter Try.func23, Try.ntmps23
      go_wp2
      go_ret
      exact ⟨retI (by unfold wrapP; omega), rfl⟩

set_option maxHeartbeats 400000 in
theorem abs_any (x : Int) (w : World) (h1 : -9223372036854775807 ≤ x) (h2 : x ≤ 9223372036854775807) :
    Calls Try.prog 19 #[.int .i64 x] w fun e w' => e = .returned (.int .i64 (absP x)) ∧ w' = w := by
  by_cases c1 : x < 0
  · go_enter Try.func19, Try.ntmps19
    go_wp2
    go_ret
    exact ⟨retI (by unfold absP; omega), rfl⟩
  · go_enter Try.func19, Try.ntmps19
    go_wp2
    go_ret
    exact ⟨retI (by unfold absP; omega), rfl⟩

theorem u64_in (n : Int) (h0 : 0 ≤ n) (h1 : n < 18446744073709551616) : IntKind.u64.wrap n = n := by rw [IntKind.wrap_u64]; omega
theorem i64_in (n : Int) (h0 : -9223372036854775808 ≤ n) (h1 : n ≤ 9223372036854775807) : IntKind.i64.wrap n = n := by rw [IntKind.wrap_i64]; omega

theorem circ_raw (wt m o x : Int) (h1 : 1 ≤ m) (h2 : m ≤ 2147483646) (h3 : 1 ≤ wt) (h4 : wt ≤ 65536) (h5 : -4294967296 < o) (h6 : o < 4294967296) (h7 : 0 ≤ x) (h8 : x < 4294967296) :
    IntKind.i64.wrap (IntKind.i64.wrap (IntKind.u64.wrap ((IntKind.u64.wrap (x * wt)).tmod 4294967296 * IntKind.u64.wrap (m + 1))) - o) = pos wt m x - o := by
  have b1 : 0 ≤ x * wt := Int.mul_nonneg h7 (by omega)
  have b2 : x * wt ≤ 4294967296 * 65536 := Int.mul_le_mul (by omega) h4 (by omega) (by omega)
  have b3 := pos_bd wt m x (by omega)
  rw [u64_in (x * wt) b1 (by omega), u64_in (m + 1) (by omega) (by omega), Int.tmod_eq_emod_of_nonneg b1]
  show IntKind.i64.wrap (IntKind.i64.wrap (IntKind.u64.wrap (pos wt m x)) - o) = pos wt m x - o
  rw [u64_in _ b3.1 (by omega), i64_in (pos wt m x) (by omega) (by omega), i64_in _ (by omega) (by omega)]

set_option maxHeartbeats 1000000 in
theorem onCircle_any (wt m o x : Int) (w : World) (h1 : 1 ≤ m) (h2 : m ≤ 2147483646) (h3 : 1 ≤ wt) (h4 : wt ≤ 65536) (h5 : -4294967296 < o) (h6 : o < 4294967296) (h7 : 0 ≤ x) (h8 : x < 4294967296) :
    Calls Try.prog 18 #[.agg #[.int .u64 wt, .int .u64 m, .int .i64 o], .int .u64 x] w fun e w' => e = .returned (.int .i64 (circ wt m o x)) ∧ Below w.heap.size w w' := by
  have b3 := pos_bd wt m x (by omega)
  have HV : Hid _ := circ_raw wt m o x h1 h2 h3 h4 h5 h6 h7 h8
  obtain ⟨b3, b4⟩ := b3
  go_enter Try.func18, Try.ntmps18
  go_wp2
  go_region_held3 (fun w' => w'.cell? ⟨w.heap.size, 0, none⟩ = some (.int .u64 wt) ∧ w'.cell? ⟨w.heap.size, 1, none⟩ = some (.int .u64 m) ∧ w'.cell? ⟨w.heap.size, 2, none⟩ = some (.int .i64 o)) (go_keep) (first
    | (go_at_call 22; refine (span_any _ _ _ _ h1 h2).mono ?_; rintro e w' ⟨rfl, rfl⟩)
    | (go_at_call 23; rw [HV.out]; refine (wrap_any _ _ _ (by omega) (by omega) (by omega) (by omega)).mono ?_; rintro e w' ⟨rfl, rfl⟩))
  go_wp2
  go_ret
  exact ⟨rfl, (((Below.refl _ _).alloc (Nat.le_refl _) _).alloc (by simp) _).drew⟩
end Go.Proofs.Qxb6619060a
