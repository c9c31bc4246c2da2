/-
  SEAT b6617827a: THE CONTRACTS OF unquote, ZZunquote.
-/
import Derived.Test.Qxb6617827aBuilder
import Derived.Test.Qxb6617827aUnqPlain
import Derived.Test.Qxb6617827aSmall
namespace Go.Proofs.Qxb6617827a
open Go.RowKit

theorem cells_ofL (l : List Int) (h : ∀ c ∈ l, 0 ≤ c ∧ c ≤ 255) : Lib.byteCells (l.map fun n => UInt8.ofNat n.toNat) = l.map (Value.int .u8) := by
  unfold Lib.byteCells
  rw [List.map_map]
  apply List.map_congr_left
  intro c hc
  have := h c hc
  simp; omega

set_option maxRecDepth 100000 in
set_option maxHeartbeats 2000000 in
theorem unq_yes (s : ByteArray) (w : World) (hs : s.size ≤ 2097152) (h2 : 2 ≤ s.size) (hq0 : (s[0].toNat : Int) = 34) (hq1 : (s[s.size - 1].toNat : Int) = 34) :
    Calls Try.prog 20 #[.string s] w fun e w' => e = .returned (.string (ofL (unq (ins (L s))))) ∧ Below w.heap.size w w' := by
  obtain ⟨U, hU⟩ : ∃ U, unq (rest s 1) = U := ⟨_, rfl⟩
  have HU : Hid (unq (rest s 1) = U) := hU
  have HUi : Hid (unq (ins (L s)) = U) := by rw [Hid, ← rest_one s h2]; exact hU
  clear hU
  go_enter Try.func20, Try.ntmps20
  go_wp2
  clear hq0 hq1
  go_loopw [4] (fun i wr => ∃ (k : Nat) (acc : List Int), 1 ≤ k ∧ k ≤ s.size - 1 ∧ i = .int .i64 k ∧ Lib.IsBuilder 34 5 w.heap.size w.heap.size (acc.map (Value.int .u8)) wr ∧ Below w.heap.size w wr ∧ acc.length ≤ k ∧ Hid (acc ++ unq (rest s k) = U)) (fun i _ => s.size - (intOf i).toNat)
  case atStart => exact ⟨1, [], by omega, by omega, rfl, Lib.fresh_isBuilder 34 5 w, (Below.refl _ _).alloc (Nat.le_refl _) _, by simp, HU⟩
  case round =>
    obtain ⟨k, acc, hk1, hk2, rfl, hI, hB, hal, HK⟩ := hrel
    have hBs := hB.size
    have hsub : ((s.size : Int) - 1) = ((s.size - 1 : Nat) : Int) := by omega
    by_cases hlt : k < s.size - 1
    · have hks : k < s.size := by omega
      have hd := rest_cons s k hlt
      have hltI : (k : Int) < (s.size : Int) - 1 := by omega
      by_cases h1 : (s[k].toNat : Int) = 92
      · by_cases h3 : k + 1 < s.size - 1
        · have hks1 : k + 1 < s.size := by omega
          have hd2 := rest_cons s (k + 1) h3
          have h3I : (k : Int) + 1 < (s.size : Int) - 1 := by omega
          have F : Hid ((acc ++ [(s[k + 1].toNat : Int)]) ++ unq (rest s (k + 2)) = U) := by
            have := HK.out
            rw [hd, h1, hd2, unq_esc] at this
            rw [← this]; simp [Hid]
          clear hd hd2 HK hsub
          go_wp2_with (go_at_call 21; refine (writeByte_any w.heap.size w.heap.size _ _ _ hI (by simp; omega) hBs).mono ?_; rintro e w1 ⟨rfl, hI1, hB1⟩)
          have hI2 : Lib.IsBuilder 34 5 w.heap.size w.heap.size ((acc ++ [(s[k + 1].toNat : Int)]).map (Value.int .u8)) w1 := by rw [List.map_append]; exact hI1
          go_roundw
          case rel => exact ⟨k + 2, _, by omega, by omega, by go_num, hI2, hB.trans hB1, by simp; omega, F⟩
          case measure => simp [intOf]; omega
        · have h3I : ¬ (k : Int) + 1 < (s.size : Int) - 1 := by omega
          have F : Hid ((acc ++ [(s[k].toNat : Int)]) ++ unq (rest s (k + 1)) = U) := by
            have := HK.out
            rw [hd, h1, rest_end s (k + 1) (by omega)] at this
            rw [h1, rest_end s (k + 1) (by omega), ← this]; simp [Hid, unq]
          clear hd HK hsub
          go_wp2_with (go_at_call 21; refine (writeByte_any w.heap.size w.heap.size _ _ _ hI (by simp; omega) hBs).mono ?_; rintro e w1 ⟨rfl, hI1, hB1⟩)
          have hI2 : Lib.IsBuilder 34 5 w.heap.size w.heap.size ((acc ++ [(s[k].toNat : Int)]).map (Value.int .u8)) w1 := by rw [List.map_append, h1]; exact hI1
          go_roundw
          case rel => exact ⟨k + 1, _, by omega, by omega, by go_num, hI2, hB.trans hB1, by simp; omega, F⟩
          case measure => simp [intOf]; omega
      · have h1' : ((s[k].toNat : Int) == 92) = false := by simpa using h1
        have F : Hid ((acc ++ [(s[k].toNat : Int)]) ++ unq (rest s (k + 1)) = U) := by
          have := HK.out
          rw [hd, unq_other _ _ h1] at this
          rw [← this]; simp [Hid]
        clear hd HK hsub h1
        go_wp2_with (go_at_call 21; refine (writeByte_any w.heap.size w.heap.size _ _ _ hI (by simp; omega) hBs).mono ?_; rintro e w1 ⟨rfl, hI1, hB1⟩)
        have hI2 : Lib.IsBuilder 34 5 w.heap.size w.heap.size ((acc ++ [(s[k].toNat : Int)]).map (Value.int .u8)) w1 := by rw [List.map_append]; exact hI1
        go_roundw
        case rel => exact ⟨k + 1, _, by omega, by omega, by go_num, hI2, hB.trans hB1, by simp; omega, F⟩
        case measure => simp [intOf]; omega
    · have F : acc = U := by
        have := HK.out
        rw [rest_end s k hlt] at this
        simpa [unq] using this
      subst F
      have hbd : ∀ c ∈ acc, 0 ≤ c ∧ c ≤ 255 := by
        intro c hc
        rw [← HUi.out] at hc
        have := (unq_bd (ins (L s)) _ (Nat.le_refl _)).2 c hc
        exact L_bd s c (List.mem_of_mem_drop (List.mem_of_mem_take this))
      rw [← cells_ofL acc hbd] at hI
      have hltI : ¬ (k : Int) < (s.size : Int) - 1 := by omega
      clear HK hsub HU
      go_wp2_with (go_at_call 22; refine (builder_String w.heap.size w.heap.size _ _ hI hBs).mono ?_; rintro e w1 ⟨rfl, hB1⟩)
      go_ret
      exact ⟨by rw [HUi.out]; rfl, hB.trans hB1⟩

set_option maxHeartbeats 1000000 in
theorem unq_no (s : ByteArray) (w : World) (hs : s.size ≤ 2097152) (h : isQ (L s) = false) :
    Calls Try.prog 20 #[.string s] w fun e w' => e = .returned (.string s) ∧ Below w.heap.size w w' := by
  by_cases h2 : 2 ≤ s.size
  · have hl : (L s).length = s.size := L_length s
    have g0 := L_getD s 0 (by omega)
    have g1 := L_getD s (s.size - 1) (by omega)
    rw [isQ, hl, g0, g1] at h
    have h2I : (2 : Int) ≤ (s.size : Int) := by omega
    by_cases q0 : (s[0].toNat : Int) = 34
    · have q1 : ((s[s.size - 1].toNat : Int) != 34) = true := by rw [bne, show ((s[s.size - 1].toNat : Int) == 34) = false from by simpa [h2, q0] using h]; rfl
      clear h g0 g1
      go_enter Try.func20, Try.ntmps20
      go_wp2
      go_ret
      exact ⟨rfl, Below.refl _ _⟩
    · have q0' : ((s[0].toNat : Int) != 34) = true := by simpa using q0
      clear h g0 g1 q0
      go_enter Try.func20, Try.ntmps20
      go_wp2
      go_ret
      exact ⟨rfl, Below.refl _ _⟩
  · have h2I : (s.size : Int) < 2 := by omega
    clear h
    go_enter Try.func20, Try.ntmps20
    go_wp2
    go_ret
    exact ⟨rfl, Below.refl _ _⟩

theorem unq_any (s : ByteArray) (w : World) (hs : s.size ≤ 2097152) :
    Calls Try.prog 20 #[.string s] w fun e w' => e = .returned (.string (unqS s)) ∧ Below w.heap.size w w' := by
  cases h : isQ (L s)
  · have : unqS s = s := by rw [unqS, h]; rfl
    rw [this]; exact unq_no s w hs h
  · have e : unqS s = ofL (unq (ins (L s))) := by rw [unqS, if_pos h]
    rw [e]
    have hl : (L s).length = s.size := L_length s
    rw [isQ, hl, Bool.and_eq_true, Bool.and_eq_true, decide_eq_true_eq] at h
    obtain ⟨⟨h2, q0⟩, q1⟩ := h
    have g0 := L_getD s 0 (by omega)
    have g1 := L_getD s (s.size - 1) (by omega)
    rw [g0, beq_iff_eq] at q0
    rw [g1, beq_iff_eq] at q1
    exact unq_yes s w hs h2 q0 q1

set_option maxHeartbeats 400000 in
theorem zzUnq_any (s : ByteArray) (w : World) (hs : s.size ≤ 2097152) :
    Calls Try.prog 14 #[.string s] w fun e w' => e = .returned (.string (unqS s)) ∧ Below w.heap.size w w' := by
  go_enter Try.func14, Try.ntmps14
  go_wp2_with (go_at_call 20; refine (unq_any _ _ hs).mono ?_; rintro e w1 ⟨rfl, hB1⟩)
  go_ret
  exact ⟨rfl, hB1⟩

end Go.Proofs.Qxb6617827a
