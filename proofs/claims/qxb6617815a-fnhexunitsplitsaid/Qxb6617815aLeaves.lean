/-
  SEAT b6617815a: THE LEAVES' CONTRACTS: hexUnit, ZZhexUnit, hexDigitValue, allHex.
-/
import Derived.Test.Qxb6617815aProg
import Derived.Test.Qxb6617815aPlain
import Derived.Outline
namespace Go.Proofs.Qxb6617815a
open Go.RowKit

/-- WHERE A SLICE's BYTES LIE: each of the first 'l.length' cells holds its number. -/
def Lies (w : World) (ao : Option Addr) (l : List Int) : Prop :=
  (∀ c ∈ l, 0 ≤ c ∧ c ≤ 255) ∧ ∀ j, j < l.length → ∃ b off, ao = some ⟨b, off, none⟩ ∧ w.cell? ⟨b, off + j, none⟩ = some (.int .u8 (l.getD j 0))

theorem Lies.byte {w : World} {ao : Option Addr} {l : List Int} (h : Lies w ao l) (j : Nat) (hj : j < l.length) :
    ∃ b off c, ao = some ⟨b, off, none⟩ ∧ w.cell? ⟨b, off + j, none⟩ = some (.int .u8 c) ∧ c = l.getD j 0 ∧ 0 ≤ c ∧ c ≤ 255 := by
  obtain ⟨b, off, e, hc⟩ := h.2 j hj
  have hm : l.getD j 0 ∈ l := by
    rw [show l.getD j 0 = l[j] by simp [List.getD, hj]]; exact List.getElem_mem hj
  exact ⟨b, off, _, e, hc, rfl, h.1 _ hm⟩

theorem ret2 {a b : Int} {p q : Bool} {k : IntKind} (h : a = b) (h' : p = q) : Ending.returned (.tuple #[.int k a, .bool p]) = .returned (.tuple #[.int k b, .bool q]) := by rw [h, h']

theorem retB {p q : Bool} (h : p = q) : Ending.returned (.bool p) = .returned (.bool q) := by rw [h]

theorem hexV_dig {c : Int} (h1 : 48 ≤ c) (h2 : c ≤ 57) : hexV c = c - 48 := by unfold hexV; rw [if_pos ⟨h1, h2⟩]
theorem hexV_low {c : Int} (h1 : 97 ≤ c) (h2 : c ≤ 102) : hexV c = c - 87 := by unfold hexV; rw [if_neg (by omega), if_pos ⟨h1, h2⟩]
theorem hexV_up {c : Int} (h1 : 65 ≤ c) (h2 : c ≤ 70) : hexV c = c - 55 := by unfold hexV; rw [if_neg (by omega), if_neg (by omega), if_pos ⟨h1, h2⟩]
theorem hexV_bad {c : Int} (h1 : ¬ (48 ≤ c ∧ c ≤ 57)) (h2 : ¬ (97 ≤ c ∧ c ≤ 102)) (h3 : ¬ (65 ≤ c ∧ c ≤ 70)) : hexV c = -1 := by unfold hexV; rw [if_neg h1, if_neg h2, if_neg h3]

/-- one more digit -/
theorem good_step {l : List Int} {k : Nat} {v : Int} (hk : k < l.length) (ha : allH (l.take k) = true) (hv : hexV (l.getD k 0) = v) (h0 : 0 ≤ v) (h1 : v ≤ 15) :
    allH (l.take (k + 1)) = true ∧ bits .or .i32 (wrap32 (wrap32 (val (l.take k)) * 16)) v = wrap32 (val (l.take (k + 1))) := by
  rw [take_snoc l k hk, allH_snoc, val_snoc, ha, hv, hex_step _ _ h0 h1]
  exact ⟨by rw [Bool.true_and, isHex_iff, hv]; exact h0, rfl⟩
theorem allH_bad {l : List Int} {k : Nat} (hk : k < l.length) (hv : isHex (l.getD k 0) = false) : allH l = false := by
  unfold allH
  rw [List.all_eq_false]
  refine ⟨l.getD k 0, ?_, by rw [hv]; exact Bool.false_ne_true⟩
  rw [show l.getD k 0 = l[k] by simp [List.getD, hk]]; exact List.getElem_mem hk

set_option maxHeartbeats 1000000 in
theorem hexUnit_any (ao : Option Addr) (cap : Nat) (l : List Int) (w : World) (hl : l.length ≤ 1048576) (hc : Lies w ao l) :
    Calls Try.prog 21 #[.slice ao l.length cap] w fun e w' => e = .returned (.tuple #[.int .i32 (hxR l), .bool (allH l)]) ∧ w' = w := by
  go_enter Try.func21, Try.ntmps21
  go_wp2
  go_loop [4, 9] (fun r i => ∃ k : Nat, k ≤ l.length ∧ i = .int .i64 k ∧ allH (l.take k) = true ∧ r = .int .i32 (wrap32 (val (l.take k)))) (fun _ i => l.length - (intOf i).toNat)
  case atStart => exact ⟨0, Nat.zero_le _, rfl, rfl, by simp [val, wrap32]⟩
  case round =>
    obtain ⟨k, hk, rfl, ha, rfl⟩ := hrel
    by_cases hlt : k < l.length
    · obtain ⟨b, off, c, rfl, hcell, hcc, hc0, hc1⟩ := hc.byte k hlt
      have G : Hid (∀ v, hexV c = v → 0 ≤ v → v ≤ 15 → allH (l.take (k + 1)) = true ∧ bits .or .i32 (wrap32 (wrap32 (val (l.take k)) * 16)) v = wrap32 (val (l.take (k + 1)))) := by
        intro v hv h0 h1; exact good_step hlt ha (hcc ▸ hv) h0 h1
      have B : Hid (hexV c = -1 → allH l = false) := by
        intro hv; exact allH_bad hlt (by rw [← hcc]; simp [isHex, hv])
      clear hcc ha
      by_cases d1 : 48 ≤ c ∧ c ≤ 57
      · obtain ⟨h1, h2⟩ := d1
        go_wp2
        go_round
        case rel => exact ⟨k + 1, by omega, by go_num, (G.out _ (hexV_dig h1 h2) (by omega) (by omega)).1, by rw [← (G.out _ (hexV_dig h1 h2) (by omega) (by omega)).2]⟩
        case measure => simp [intOf]; omega
      by_cases d2 : 97 ≤ c ∧ c ≤ 102
      · obtain ⟨h1, h2⟩ := d2
        clear d1
        go_wp2
        go_round
        case rel => exact ⟨k + 1, by omega, by go_num, (G.out _ (hexV_low h1 h2) (by omega) (by omega)).1, by rw [← (G.out _ (hexV_low h1 h2) (by omega) (by omega)).2]⟩
        case measure => simp [intOf]; omega
      by_cases d3 : 65 ≤ c ∧ c ≤ 70
      · obtain ⟨h1, h2⟩ := d3
        clear d1 d2
        go_wp2
        go_round
        case rel => exact ⟨k + 1, by omega, by go_num, (G.out _ (hexV_up h1 h2) (by omega) (by omega)).1, by rw [← (G.out _ (hexV_up h1 h2) (by omega) (by omega)).2]⟩
        case measure => simp [intOf]; omega
      · have F : Hid (hxR l = 0 ∧ allH l = false) := by
          have := B.out (hexV_bad d1 d2 d3)
          exact ⟨by simp [hxR, this], this⟩
        clear B G
        go_wp2
        all_goals
          go_ret2
          exact ⟨ret2 F.out.1.symm F.out.2.symm, rfl⟩
    · have ha' : Hid (allH l = true) := by
        rw [List.take_of_length_le (by omega)] at ha; exact ha
      have hk' : k = l.length := by omega
      subst hk'
      clear ha
      go_wp2
      go_ret2
      exact ⟨ret2 (by simp [hxR, ha'.out]) ha'.out.symm, rfl⟩

set_option maxHeartbeats 400000 in
theorem zzHexUnit_any (ao : Option Addr) (cap : Nat) (l : List Int) (w : World) (hl : l.length ≤ 1048576) (hc : Lies w ao l) :
    Calls Try.prog 9 #[.slice ao l.length cap] w fun e w' => e = .returned (.tuple #[.int .i32 (hxR l), .bool (allH l)]) ∧ w' = w := by
  go_enter Try.func9, Try.ntmps9
  go_wp2_with (go_at_call 21; refine (hexUnit_any _ _ _ _ hl hc).mono ?_; rintro e w' ⟨rfl, rfl⟩)
  go_ret2
  exact ⟨rfl, rfl⟩

set_option maxHeartbeats 400000 in
theorem digit_any (c : Int) (h0 : 0 ≤ c) (h1 : c ≤ 255) (w : World) :
    Calls Try.prog 10 #[.int .u8 c] w fun e w' => e = .returned (.tuple #[.int .u32 (hexD c), .bool (isHex c)]) ∧ w' = w := by
  by_cases d1 : 48 ≤ c ∧ c ≤ 57
  · have hv := hexV_dig d1.1 d1.2
    have F : Hid (hexD c = c - 48 ∧ isHex c = true) := by
      have : isHex c = true := by rw [isHex_iff]; omega
      exact ⟨by rw [hexD, if_pos this, hv], this⟩
    obtain ⟨g1, g2⟩ := d1
    clear hv
    go_enter Try.func10, Try.ntmps10
    go_wp2
    go_ret2
    exact ⟨ret2 F.out.1.symm F.out.2.symm, rfl⟩
  have H := or32 c h0 h1
  by_cases d2 : 97 ≤ c ∧ c ≤ 102
  · have hv := hexV_low d2.1 d2.2
    have F : Hid (hexD c = c - 87 ∧ isHex c = true) := by
      have : isHex c = true := by rw [isHex_iff]; omega
      exact ⟨by rw [hexD, if_pos this, hv], this⟩
    have e := H.1 d2
    obtain ⟨g1, g2⟩ := d2
    clear hv H d1
    have d1 : 57 < c := by omega
    go_enter Try.func10, Try.ntmps10
    go_wp2
    go_ret2
    exact ⟨ret2 (by rw [F.out.1]; omega) F.out.2.symm, rfl⟩
  by_cases d3 : 65 ≤ c ∧ c ≤ 70
  · have hv := hexV_up d3.1 d3.2
    have F : Hid (hexD c = c - 55 ∧ isHex c = true) := by
      have : isHex c = true := by rw [isHex_iff]; omega
      exact ⟨by rw [hexD, if_pos this, hv], this⟩
    have e := H.2.1 d3
    obtain ⟨g1, g2⟩ := d3
    clear hv H d1 d2
    have d1 : 57 < c := by omega
    go_enter Try.func10, Try.ntmps10
    go_wp2
    go_ret2
    exact ⟨ret2 (by rw [F.out.1]; omega) F.out.2.symm, rfl⟩
  · have hv := hexV_bad d1 d2 d3
    have F : Hid (hexD c = 0 ∧ isHex c = false) := by
      have : isHex c = false := by simp [isHex, hv]
      exact ⟨by rw [hexD, this]; rfl, this⟩
    have e := H.2.2 ⟨d2, d3⟩
    clear hv H d2 d3
    go_enter Try.func10, Try.ntmps10
    go_wp2
    all_goals first
      | (exfalso; omega)
      | (go_ret2
         exact ⟨ret2 F.out.1.symm F.out.2.symm, rfl⟩)

theorem allH_take {l : List Int} {k : Nat} (hk : k < l.length) (ha : allH (l.take k) = true) (hh : isHex (l.getD k 0) = true) : allH (l.take (k + 1)) = true := by
  rw [take_snoc l k hk, allH_snoc, ha, hh]; rfl

set_option maxHeartbeats 400000 in
theorem allHex_any (ao : Option Addr) (cap : Nat) (l : List Int) (w : World) (hl : l.length ≤ 1048576) (hc : Lies w ao l) :
    Calls Try.prog 13 #[.slice ao l.length cap] w fun e w' => e = .returned (.bool (allH l)) ∧ w' = w := by
  go_enter Try.func13, Try.ntmps13
  go_wp2
  go_loop [3] (fun i => ∃ k : Nat, k ≤ l.length ∧ i = .int .i64 k ∧ allH (l.take k) = true) (fun i => l.length - (intOf i).toNat)
  case atStart => exact ⟨0, Nat.zero_le _, rfl, rfl⟩
  case round =>
    obtain ⟨k, hk, rfl, ha⟩ := hrel
    by_cases hlt : k < l.length
    · obtain ⟨b, off, c, rfl, hcell, hcc, hc0, hc1⟩ := hc.byte k hlt
      cases hh : isHex c
      · have F : Hid (allH l = false) := allH_bad hlt (by rw [← hcc]; exact hh)
        clear hcc ha
        go_wp2_with (go_at_call 10; refine (digit_any _ hc0 hc1 _).mono ?_; rintro e w' ⟨rfl, rfl⟩)
        go_ret
        exact ⟨retB F.out.symm, rfl⟩
      · have F : Hid (allH (l.take (k + 1)) = true) := allH_take hlt ha (by rw [← hcc]; exact hh)
        clear hcc ha
        go_wp2_with (go_at_call 10; refine (digit_any _ hc0 hc1 _).mono ?_; rintro e w' ⟨rfl, rfl⟩)
        go_round
        case rel => exact ⟨k + 1, by omega, by go_num, F.out⟩
        case measure => simp [intOf]; omega
    · have F : Hid (allH l = true) := by
        rw [List.take_of_length_le (by omega)] at ha; exact ha
      clear ha
      go_wp2
      go_ret
      exact ⟨retB F.out.symm, rfl⟩

end Go.Proofs.Qxb6617815a
