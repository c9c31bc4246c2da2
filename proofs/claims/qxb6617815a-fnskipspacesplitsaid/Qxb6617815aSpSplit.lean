/-
  SEAT b6617815a: THE WALKS OF FnSkipSpaceSplit.
-/
import Derived.Test.Qxb6617815aSkip
import Derived.Deep.CutRange
import Derived.Deep.RegionWith
import Derived.Deep.LoopGhost
namespace Go.Proofs.Qxb6617815a
open Go.RowKit

set_option maxRecDepth 100000 in
set_option maxHeartbeats 2000000 in
theorem sps_any (ao bo : Option Addr) (ca cb : Nat) (la lb : List Int) (i : Int) (w : World) (ha : Lies w ao la) (hb : Lies w bo lb) (h1 : la.length ≤ 524288) (h2 : lb.length ≤ 524288) (h0 : 0 ≤ i) (hi : i ≤ 9223372036854775807) :
    Calls Try.prog 5 #[.slice ao la.length ca, .slice bo lb.length cb, .int .i64 i] w fun e w' => e = .returned (.bool true) ∧ Below w.heap.size w w' := by
  obtain ⟨n, rfl⟩ := Int.eq_ofNat_of_zero_le h0
  have qn := neq_nil
  go_enter Try.func5, Try.ntmps5
  go_upto_if 30 with (go_at_call 14; go_in)
  go_cut [0] from 14 (fun s w1 => ∃ ao1 ca1, s = .slice ao1 la.length ca1 ∧ Lies w1 ao1 la ∧ Below w.heap.size w w1)
  case first =>
    cases ao with
    | none =>
      go_wp2
      go_meet
      case rel => exact ⟨_, _, rfl, ha, Below.refl _ _⟩
    | some x =>
      go_wp2_with (first
        | (at_make; refine make_law rfl _ _ rfl _ la.length rfl rfl rfl (by omega) ?_; intro w1 cur hcur hb1)
        | (with_reducible refine at_dst 36 ?_; refine copy_all rfl (.tmp 34) (.tmp 35) rfl _ la.length _ _ rfl rfl la rfl cur hcur _ w rfl ha hb1 (Nat.le_refl _) ?_; intro w2 hl2 hb2; clear hcur hb1))
      go_meet
      case rel => exact ⟨_, _, rfl, hl2, hb2⟩
  case rest =>
    obtain ⟨ao1, ca1, rfl, ha1, hbl1⟩ := hcut
    have hb1 := hb.below hbl1
    go_upto_if 39 with fail
    go_cut [1] from 14 (fun s w2 => ∃ bo2 cb2, s = .slice bo2 lb.length cb2 ∧ Lies w2 bo2 lb ∧ Below wc.heap.size wc w2)
    case first =>
      cases bo with
      | none =>
        go_wp2
        go_meet
        case rel => exact ⟨_, _, rfl, hb1, Below.refl _ _⟩
      | some x =>
        go_wp2_with (first
          | (at_make; refine make_law rfl _ _ rfl _ lb.length rfl rfl rfl (by omega) ?_; intro w3 cur hcur hbm)
          | (with_reducible refine at_dst 45 ?_; refine copy_all rfl (.tmp 43) (.tmp 44) rfl _ lb.length _ _ rfl rfl lb rfl cur hcur _ wc rfl hb1 hbm (Nat.le_refl _) ?_; intro w4 hl4 hb4; clear hcur hbm))
        go_meet
        case rel => exact ⟨_, _, rfl, hl4, hb4⟩
    case rest =>
      obtain ⟨bo2, cb2, rfl, hb2, hbl2⟩ := hcut
      have ha2 := ha1.below hbl2
      have hB := hbl1.trans (hbl2.mono hbl1.size)
      clear ha hb ha1 hb1 hbl1 hbl2
      obtain ⟨R, hR⟩ : ∃ R, skip (la ++ lb) n = R := ⟨_, rfl⟩
      have HR : Hid (skip (la ++ lb) n = R) := hR
      clear hR
      have hL : (la ++ lb).length ≤ 1048576 := by simp; omega
      go_upto_if 56 with (first
        | (go_at_call 12; refine (join_any _ _ _ _ la lb _ ha2 hb2 h1 h2).mono ?_; rintro e wj ⟨rfl, hj, hbj⟩)
        | (go_at_call 15; refine (zzSkip_len _ _ _ (la ++ lb) (by simp) _ R _ hL hj h0 hi HR.out).mono ?_; rintro e wk ⟨rfl, rfl⟩))
      have hBj := hB.trans (hbj.mono hB.size)
      have ha3 := ha2.below hbj
      have hb3 := hb2.below hbj
      clear hbj hB ha2 hb2
      obtain ⟨g, hg⟩ : ∃ g, wc.heap.size = g := ⟨_, rfl⟩
      rw [hg] at hj
      rw [hg]
      clear hg
      go_cut [11] from 14 (fun s w1 => s = .int .i64 (R : Int) ∧ Lies w1 (some ⟨g, 0, none⟩) (la ++ lb) ∧ Below w.heap.size w w1)
      case first =>
        by_cases hn : n ≤ la.length
        · obtain ⟨RA, hRA⟩ : ∃ RA, skip la n = RA := ⟨_, rfl⟩
          have HRA : Hid (skip la n = RA) := hRA
          have hnI : (n : Int) ≤ (la.length : Int) := by omega
          by_cases hra : RA < la.length
          · have F : Hid (R = RA) := by rw [← HR.out, ← hRA]; exact skip_append_in la lb n hn (by omega)
            clear hRA
            have hraI : (RA : Int) < (la.length : Int) := by omega
            go_wp2_with (go_at_call 15; refine (zzSkip_any _ _ la _ RA _ (by omega) ha3 h0 hi HRA.out).mono ?_; rintro e wk ⟨rfl, rfl⟩)
            go_meet
            case rel => exact ⟨by rw [F.out], hj, hBj⟩
          · obtain ⟨RB, hRB⟩ : ∃ RB, skip lb 0 = RB := ⟨_, rfl⟩
            have HRB : Hid (skip lb (0 : Int).toNat = RB) := hRB
            have F : Hid ((la.length : Int) + RB = R) := by
              have := skip_append_over la lb n hn (by omega)
              rw [HR.out, hRB] at this; show (la.length : Int) + RB = R; omega
            have hRBl : RB ≤ lb.length := by rw [← hRB]; exact skip_le lb 0 (by omega)
            clear hRA hRB
            have hraI : ¬ (RA : Int) < (la.length : Int) := by omega
            go_wp2_with (first
              | (go_at_call_of 15 la; refine (zzSkip_any _ _ la _ RA _ (by omega) ha3 h0 hi HRA.out).mono ?_; rintro e wk ⟨rfl, rfl⟩)
              | (go_at_call_of 15 lb; refine (zzSkip_any _ _ lb _ RB _ (by omega) hb3 (by omega) (by omega) HRB.out).mono ?_; rintro e wk ⟨rfl, rfl⟩))
            go_meet
            case rel => exact ⟨by rw [F.out], hj, hBj⟩
        · obtain ⟨RB, hRB⟩ : ∃ RB, skip lb (n - la.length) = RB := ⟨_, rfl⟩
          have HRB : Hid (skip lb ((n : Int) - (la.length : Int)).toNat = RB) := by
            rw [show ((n : Int) - (la.length : Int)).toNat = n - la.length from by omega]; exact hRB
          have F : Hid ((la.length : Int) + RB = R) := by
            have := skip_append_far la lb n (by omega)
            rw [HR.out, hRB] at this; show (la.length : Int) + RB = R; omega
          have hRBl : RB ≤ lb.length ∨ RB = n - la.length := by rw [← hRB]; exact skip_bd lb _
          clear hRB
          have hnI : ¬ (n : Int) ≤ (la.length : Int) := by omega
          have hsum : (la.length : Int) + RB ≤ 9223372036854775807 := by omega
          go_wp2_with (go_at_call 15; refine (zzSkip_any _ _ lb _ RB _ (by omega) hb3 (by omega) (by omega) HRB.out).mono ?_; rintro e wk ⟨rfl, rfl⟩)
          go_meet
          case rel => exact ⟨by rw [F.out], hj, hBj⟩
      case rest =>
        obtain ⟨rfl, hjc, hBc⟩ := hcut
        clear hj ha3 hb3 hBj
        by_cases hn : n < la.length + lb.length
        · have hR1 : n ≤ R := by rw [← HR.out]; exact skip_ge _ _
          have hR2 : R ≤ la.length + lb.length := by
            have := skip_le (la ++ lb) n (by simp; omega)
            rw [HR.out, List.length_append] at this; exact this
          have HBL : Hid (∀ k, n ≤ k → k < R → isSp ((la ++ lb).getD k 0) = true) := fun k h1 h2 => skip_blank _ n k h1 (by rw [HR.out]; exact h2)
          have HE : Hid (R < la.length + lb.length → isSp ((la ++ lb).getD R 0) = false) := by
            intro h
            have := skip_end (la ++ lb) n (by simp; omega) (by rw [HR.out]; simpa using h)
            rwa [HR.out] at this
          have d1 : decide ((la.length : Int) + (lb.length : Int) ≤ (n : Int)) = false := decide_eq_false (by omega)
          have d2 : decide (R < n) = false := decide_eq_false (by omega)
          have d3 : decide ((la.length : Int) + (lb.length : Int) < (R : Int)) = false := decide_eq_false (by omega)
          go_wp2
          clear d1 d2 d3
          go_loopg [13] (R - n) (fun q s wr => ∃ k : Nat, n ≤ k ∧ k ≤ R ∧ R - k ≤ q ∧ s = .int .i64 (k : Int) ∧ Lies wr (some ⟨g, 0, none⟩) (la ++ lb) ∧ Below w.heap.size w wr)
          case atStart => exact ⟨n, Nat.le_refl _, hR1, Nat.le_refl _, rfl, hjc, hBc⟩
          case round =>
            clear hjc hBc
            obtain ⟨k, hk1, hk2, hq, rfl, hjc, hBc⟩ := hrel
            by_cases hlt : k < R
            · obtain ⟨b, off, c, e0, hcell, hcc, hc0, hc1⟩ := hjc.byte k (by simp; omega)
              simp only [Option.some.injEq, Addr.mk.injEq, and_true] at e0
              obtain ⟨rfl, rfl⟩ := e0
              simp only [Nat.zero_add] at hcell
              have hs : isSp c = true := by rw [hcc]; exact HBL.out k hk1 hlt
              clear hcc
              have hkI : (k : Int) < (la.length : Int) + (lb.length : Int) := by omega
              go_wp2_with (go_at_call 16; refine (isSp_any _ _).mono ?_; rintro e w' ⟨rfl, rfl⟩)
              go_roundg (R - (k + 1))
              case measure => omega
              case rel => exact ⟨k + 1, by omega, by omega, by omega, by go_num, hjc, hBc⟩
            · obtain rfl : k = R := by omega
              by_cases hend : k < la.length + lb.length
              · obtain ⟨b, off, c, e0, hcell, hcc, hc0, hc1⟩ := hjc.byte k (by simp; omega)
                simp only [Option.some.injEq, Addr.mk.injEq, and_true] at e0
                obtain ⟨rfl, rfl⟩ := e0
                simp only [Nat.zero_add] at hcell
                have hs : isSp c = false := by rw [hcc]; exact HE.out hend
                clear hcc
                have hkI : (k : Int) < (la.length : Int) + (lb.length : Int) := by omega
                have hkE : ((k : Int) == (la.length : Int) + (lb.length : Int)) = false := by rw [beq_eq_false_iff_ne]; omega
                go_wp2_with (go_at_call 16; refine (isSp_any _ _).mono ?_; rintro e w' ⟨rfl, rfl⟩)
                go_ret
                exact ⟨rfl, hBc⟩
              · have hkE : ((k : Int) == (la.length : Int) + (lb.length : Int)) = true := by rw [beq_iff_eq]; omega
                go_wp2_with (go_at_call 16; refine (isSp_any _ _).mono ?_; rintro e w' ⟨rfl, rfl⟩)
                go_ret
                exact ⟨rfl, hBc⟩
        · have hRn : R = n := by rw [← HR.out]; exact skip_out _ _ (by simp; omega)
          subst hRn
          have hnI : (la.length : Int) + (lb.length : Int) ≤ (R : Int) := by omega
          go_wp2
          go_ret
          exact ⟨retB (by simp), hBc⟩

set_option maxHeartbeats 400000 in
theorem sps_big1 (ao bo : Option Addr) (la lb ca cb : Nat) (i : Int) (w : World) (h : ¬ la ≤ 524288) :
    Calls Try.prog 5 #[.slice ao la ca, .slice bo lb cb, .int .i64 i] w fun e w' => e = .returned (.bool true) ∧ Below w.heap.size w w' := by
  have h' : (524288 : Int) < (la : Int) := by omega
  go_enter Try.func5, Try.ntmps5
  go_wp2
  all_goals
    go_ret
    exact ⟨rfl, Below.refl _ _⟩

set_option maxHeartbeats 400000 in
theorem sps_big2 (ao bo : Option Addr) (la lb ca cb : Nat) (i : Int) (w : World) (h1 : la ≤ 524288) (h : ¬ lb ≤ 524288) :
    Calls Try.prog 5 #[.slice ao la ca, .slice bo lb cb, .int .i64 i] w fun e w' => e = .returned (.bool true) ∧ Below w.heap.size w w' := by
  have h' : (524288 : Int) < (lb : Int) := by omega
  go_enter Try.func5, Try.ntmps5
  go_wp2
  all_goals
    go_ret
    exact ⟨rfl, Below.refl _ _⟩

set_option maxHeartbeats 400000 in
theorem sps_neg (ao bo : Option Addr) (la lb ca cb : Nat) (i : Int) (w : World) (h1 : la ≤ 524288) (h2 : lb ≤ 524288) (h : i < 0) :
    Calls Try.prog 5 #[.slice ao la ca, .slice bo lb cb, .int .i64 i] w fun e w' => e = .returned (.bool true) ∧ Below w.heap.size w w' := by
  go_enter Try.func5, Try.ntmps5
  go_wp2
  all_goals
    go_ret
    exact ⟨rfl, Below.refl _ _⟩

end Go.Proofs.Qxb6617815a
