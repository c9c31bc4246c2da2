/-
  SEAT b6617815a: THE WALKS OF FnHexUnitSplit.
-/
import Derived.Test.Qxb6617815aJoin
import Derived.Test.Qxb6617815aSplitPlain
import Derived.Deep.CutRange
import Derived.Deep.RegionWith
namespace Go.Proofs.Qxb6617815a
open Go.RowKit

theorem zzHex_len (ao : Option Addr) (len cap : Nat) (l : List Int) (hlen : len = l.length) (r : Int) (ok : Bool) (w : World) (hl : l.length ≤ 1048576) (hc : Lies w ao l) (hr : hxR l = r) (ho : allH l = ok) :
    Calls Try.prog 9 #[.slice ao len cap] w fun e w' => e = .returned (.tuple #[.int .i32 r, .bool ok]) ∧ w' = w := by
  subst hlen hr ho; exact zzHexUnit_any ao cap l w hl hc
theorem allHex_len (ao : Option Addr) (cap : Nat) (l : List Int) (ok : Bool) (w : World) (hl : l.length ≤ 1048576) (hc : Lies w ao l) (ho : allH l = ok) :
    Calls Try.prog 13 #[.slice ao l.length cap] w fun e w' => e = .returned (.bool ok) ∧ w' = w := by
  subst ho; exact allHex_any ao cap l w hl hc

set_option maxRecDepth 100000 in
set_option maxHeartbeats 2000000 in
theorem hus_any (ao bo : Option Addr) (ca cb : Nat) (la lb : List Int) (w : World) (ha : Lies w ao la) (hb : Lies w bo lb) (h1 : la.length ≤ 524288) (h2 : lb.length ≤ 524288) :
    Calls Try.prog 4 #[.slice ao la.length ca, .slice bo lb.length cb] w fun e w' => e = .returned (.bool true) ∧ Below w.heap.size w w' := by
  have qn := neq_nil
  go_enter Try.func4, Try.ntmps4
  go_upto_if 29 with (go_at_call 11; go_in)
  go_cut [0] from 16 (fun s w1 => ∃ ao1 ca1, s = .slice ao1 la.length ca1 ∧ Lies w1 ao1 la ∧ Below w.heap.size w w1)
  case first =>
    cases ao with
    | none =>
      go_wp2
      go_meet
      case rel => exact ⟨_, _, rfl, ha, Below.refl _ _⟩
    | some x =>
      go_wp2_with (first
        | (at_make; refine make_law rfl _ _ rfl _ la.length rfl rfl rfl (by omega) ?_; intro w1 cur hcur hb1)
        | (with_reducible refine at_dst 35 ?_; refine copy_all rfl (.tmp 33) (.tmp 34) rfl _ la.length _ _ rfl rfl la rfl cur hcur _ w rfl ha hb1 (Nat.le_refl _) ?_; intro w2 hl2 hb2; clear hcur hb1))
      go_meet
      case rel => exact ⟨_, _, rfl, hl2, hb2⟩
  case rest =>
    obtain ⟨ao1, ca1, rfl, ha1, hbl1⟩ := hcut
    have hb1 := hb.below hbl1
    go_upto_if 38 with fail
    go_cut [1] from 16 (fun s w2 => ∃ bo2 cb2, s = .slice bo2 lb.length cb2 ∧ Lies w2 bo2 lb ∧ Below wc.heap.size wc w2)
    case first =>
      cases bo with
      | none =>
        go_wp2
        go_meet
        case rel => exact ⟨_, _, rfl, hb1, Below.refl _ _⟩
      | some x =>
        go_wp2_with (first
          | (at_make; refine make_law rfl _ _ rfl _ lb.length rfl rfl rfl (by omega) ?_; intro w3 cur hcur hbm)
          | (with_reducible refine at_dst 44 ?_; refine copy_all rfl (.tmp 42) (.tmp 43) rfl _ lb.length _ _ rfl rfl lb rfl cur hcur _ wc rfl hb1 hbm (Nat.le_refl _) ?_; intro w4 hl4 hb4; clear hcur hbm))
        go_meet
        case rel => exact ⟨_, _, rfl, hl4, hb4⟩
    case rest =>
      obtain ⟨bo2, cb2, rfl, hb2, hbl2⟩ := hcut
      have ha2 := ha1.below hbl2
      have hB := hbl1.trans (hbl2.mono hbl1.size)
      clear ha hb ha1 hb1 hbl1 hbl2
      have hL : (la ++ lb).length ≤ 1048576 := by simp; omega
      -- the values, under names
      obtain ⟨RA, hRA⟩ : ∃ r, hxR la = r := ⟨_, rfl⟩
      obtain ⟨RB, hRB⟩ : ∃ r, hxR lb = r := ⟨_, rfl⟩
      obtain ⟨R, hR⟩ : ∃ r, hxR (la ++ lb) = r := ⟨_, rfl⟩
      have HRA : Hid (hxR la = RA) := hRA
      have HRB : Hid (hxR lb = RB) := hRB
      have HR : Hid (hxR (la ++ lb) = R) := hR
      clear hRA hRB hR
      cases hA : allH la <;> cases hBb : allH lb
      · have HA : Hid (allH la = false) := hA
        have HB : Hid (allH lb = false) := hBb
        have HAB : Hid (allH (la ++ lb) = false) := by rw [Hid, allH_append, hA, hBb]; rfl
        clear hA hBb
        have z1 : RA = 0 := by rw [← HRA.out, hxR, HA.out]; rfl
        have z2 : RB = 0 := by rw [← HRB.out, hxR, HB.out]; rfl
        have z3 : R = 0 := by rw [← HR.out, hxR, HAB.out]; rfl
        subst z1 z2 z3
        go_wp2_with (first
          | (go_at_call 12; refine (join_any _ _ _ _ la lb _ ha2 hb2 h1 h2).mono ?_; rintro e wj ⟨rfl, hj, hbj⟩; have ha3 := ha2.below hbj; have hb3 := hb2.below hbj; have hBj := hB.trans (hbj.mono hB.size))
          | (go_at_call_of 9 ao1; refine (zzHex_len _ _ _ la rfl 0 false _ (by omega) ha3 HRA.out HA.out).mono ?_; rintro e wk ⟨rfl, rfl⟩)
          | (go_at_call_of 9 bo2; refine (zzHex_len _ _ _ lb rfl 0 false _ (by omega) hb3 HRB.out HB.out).mono ?_; rintro e wk ⟨rfl, rfl⟩)
          | (go_at_call 9; refine (zzHex_len _ _ _ (la ++ lb) (by simp) 0 false _ hL hj HR.out HAB.out).mono ?_; rintro e wk ⟨rfl, rfl⟩)
          | (go_at_call_of 13 ao1; refine (allHex_len _ _ la false _ (by omega) ha3 HA.out).mono ?_; rintro e wk ⟨rfl, rfl⟩)
          | (go_at_call_of 13 bo2; refine (allHex_len _ _ lb false _ (by omega) hb3 HB.out).mono ?_; rintro e wk ⟨rfl, rfl⟩))
        go_ret
        exact ⟨rfl, hBj⟩
      · have HA : Hid (allH la = false) := hA
        have HB : Hid (allH lb = true) := hBb
        have HAB : Hid (allH (la ++ lb) = false) := by rw [Hid, allH_append, hA, hBb]; rfl
        clear hA hBb
        have z1 : RA = 0 := by rw [← HRA.out, hxR, HA.out]; rfl
        have z3 : R = 0 := by rw [← HR.out, hxR, HAB.out]; rfl
        subst z1 z3
        go_wp2_with (first
          | (go_at_call 12; refine (join_any _ _ _ _ la lb _ ha2 hb2 h1 h2).mono ?_; rintro e wj ⟨rfl, hj, hbj⟩; have ha3 := ha2.below hbj; have hb3 := hb2.below hbj; have hBj := hB.trans (hbj.mono hB.size))
          | (go_at_call_of 9 ao1; refine (zzHex_len _ _ _ la rfl 0 false _ (by omega) ha3 HRA.out HA.out).mono ?_; rintro e wk ⟨rfl, rfl⟩)
          | (go_at_call_of 9 bo2; refine (zzHex_len _ _ _ lb rfl RB true _ (by omega) hb3 HRB.out HB.out).mono ?_; rintro e wk ⟨rfl, rfl⟩)
          | (go_at_call 9; refine (zzHex_len _ _ _ (la ++ lb) (by simp) 0 false _ hL hj HR.out HAB.out).mono ?_; rintro e wk ⟨rfl, rfl⟩)
          | (go_at_call_of 13 ao1; refine (allHex_len _ _ la false _ (by omega) ha3 HA.out).mono ?_; rintro e wk ⟨rfl, rfl⟩)
          | (go_at_call_of 13 bo2; refine (allHex_len _ _ lb true _ (by omega) hb3 HB.out).mono ?_; rintro e wk ⟨rfl, rfl⟩))
        go_ret
        exact ⟨rfl, hBj⟩
      · have HA : Hid (allH la = true) := hA
        have HB : Hid (allH lb = false) := hBb
        have HAB : Hid (allH (la ++ lb) = false) := by rw [Hid, allH_append, hA, hBb]; rfl
        clear hA hBb
        have z2 : RB = 0 := by rw [← HRB.out, hxR, HB.out]; rfl
        have z3 : R = 0 := by rw [← HR.out, hxR, HAB.out]; rfl
        subst z2 z3
        go_wp2_with (first
          | (go_at_call 12; refine (join_any _ _ _ _ la lb _ ha2 hb2 h1 h2).mono ?_; rintro e wj ⟨rfl, hj, hbj⟩; have ha3 := ha2.below hbj; have hb3 := hb2.below hbj; have hBj := hB.trans (hbj.mono hB.size))
          | (go_at_call_of 9 ao1; refine (zzHex_len _ _ _ la rfl RA true _ (by omega) ha3 HRA.out HA.out).mono ?_; rintro e wk ⟨rfl, rfl⟩)
          | (go_at_call_of 9 bo2; refine (zzHex_len _ _ _ lb rfl 0 false _ (by omega) hb3 HRB.out HB.out).mono ?_; rintro e wk ⟨rfl, rfl⟩)
          | (go_at_call 9; refine (zzHex_len _ _ _ (la ++ lb) (by simp) 0 false _ hL hj HR.out HAB.out).mono ?_; rintro e wk ⟨rfl, rfl⟩)
          | (go_at_call_of 13 ao1; refine (allHex_len _ _ la true _ (by omega) ha3 HA.out).mono ?_; rintro e wk ⟨rfl, rfl⟩)
          | (go_at_call_of 13 bo2; refine (allHex_len _ _ lb false _ (by omega) hb3 HB.out).mono ?_; rintro e wk ⟨rfl, rfl⟩))
        go_ret
        exact ⟨rfl, hBj⟩
      · have HA : Hid (allH la = true) := hA
        have HB : Hid (allH lb = true) := hBb
        have HAB : Hid (allH (la ++ lb) = true) := by rw [Hid, allH_append, hA, hBb]; rfl
        clear hA hBb
        have S : Hid ((R == bits .or .i32 (wrap32 (RA * 2 ^ min (4 * lb.length) 32)) RB) = true) := by
          have := hex_split la lb HB.out
          rw [Hid, beq_iff_eq, ← HR.out, ← HRA.out, ← HRB.out, hxR, hxR, hxR, if_pos HA.out, if_pos HB.out, if_pos HAB.out]
          exact this.symm
        obtain ⟨S2, hS2⟩ : ∃ x, wrap32 (RA * 2 ^ min (4 * lb.length) 32) = x := ⟨_, rfl⟩
        rw [hS2] at S
        have hsh : Op.shift .shl .i32 RA .u64 (4 * (lb.length : Int)) = pure (.int .i32 S2) := by
          rw [shift_shl_any _ _ _ _ (by omega), ← hS2]
          rw [show (4 * (lb.length : Int)).toNat = 4 * lb.length from by omega, IntKind.wrap_i32, show IntKind.i32.bits = 32 from rfl, wrap32]
        clear hS2
        go_wp2_with (first
          | (go_at_call 12; refine (join_any _ _ _ _ la lb _ ha2 hb2 h1 h2).mono ?_; rintro e wj ⟨rfl, hj, hbj⟩; have ha3 := ha2.below hbj; have hb3 := hb2.below hbj; have hBj := hB.trans (hbj.mono hB.size))
          | (go_at_call_of 9 ao1; refine (zzHex_len _ _ _ la rfl RA true _ (by omega) ha3 HRA.out HA.out).mono ?_; rintro e wk ⟨rfl, rfl⟩)
          | (go_at_call_of 9 bo2; refine (zzHex_len _ _ _ lb rfl RB true _ (by omega) hb3 HRB.out HB.out).mono ?_; rintro e wk ⟨rfl, rfl⟩)
          | (go_at_call 9; refine (zzHex_len _ _ _ (la ++ lb) (by simp) R true _ hL hj HR.out HAB.out).mono ?_; rintro e wk ⟨rfl, rfl⟩)
          | (go_at_call_of 13 ao1; refine (allHex_len _ _ la true _ (by omega) ha3 HA.out).mono ?_; rintro e wk ⟨rfl, rfl⟩)
          | (go_at_call_of 13 bo2; refine (allHex_len _ _ lb true _ (by omega) hb3 HB.out).mono ?_; rintro e wk ⟨rfl, rfl⟩))
        go_ret
        exact ⟨retB S.out, hBj⟩

set_option maxHeartbeats 400000 in
theorem hus_big1 (ao bo : Option Addr) (la lb ca cb : Nat) (w : World) (h : ¬ la ≤ 524288) :
    Calls Try.prog 4 #[.slice ao la ca, .slice bo lb cb] w fun e w' => e = .returned (.bool true) ∧ Below w.heap.size w w' := by
  have h' : (524288 : Int) < (la : Int) := by omega
  go_enter Try.func4, Try.ntmps4
  go_wp2
  all_goals
    go_ret
    exact ⟨rfl, Below.refl _ _⟩

set_option maxHeartbeats 400000 in
theorem hus_big2 (ao bo : Option Addr) (la lb ca cb : Nat) (w : World) (h1 : la ≤ 524288) (h : ¬ lb ≤ 524288) :
    Calls Try.prog 4 #[.slice ao la ca, .slice bo lb cb] w fun e w' => e = .returned (.bool true) ∧ Below w.heap.size w w' := by
  have h' : (524288 : Int) < (lb : Int) := by omega
  go_enter Try.func4, Try.ntmps4
  go_wp2
  all_goals
    go_ret
    exact ⟨rfl, Below.refl _ _⟩

end Go.Proofs.Qxb6617815a
