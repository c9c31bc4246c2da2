/-
  SEAT b6619060a: THE CONTRACT OF offset.
-/
import Derived.Test.Qxb6619060aSplits
import Derived.Test.Qxb6619060aOffPlain
import Derived.Deep.CutRange
namespace Go.Proofs.Qxb6619060a
open Go.RowKit

theorem other_cell (w : World) (v : Value) {g k q i : Nat} (h : q ≠ g) : (w.setCell ⟨g, k, none⟩ v).cell? ⟨q, i, none⟩ = w.cell? ⟨q, i, none⟩ := World.cell?_of_block (heap_setCell_other _ _ _ _ h)

theorem distance_n (ao : Option Addr) (n cap : Nat) (l : List Int) (hn : l.length = n) (wt m o : Int) (w : World) (hc : Lies w ao l) (hl : n ≤ 131072) (hx : ∀ x ∈ l, 0 ≤ x ∧ x < 4294967296)
    (h1 : 1 ≤ m) (h2 : m ≤ 2147483646) (h3 : 1 ≤ wt) (h4 : wt ≤ 65536) (h5 : -4294967296 < o) (h6 : o < 4294967296) (r : Int) (hr : r = D wt m o l) :
    Calls Try.prog 13 #[.agg #[.int .u64 wt, .int .u64 m, .int .i64 o], .slice ao n cap] w fun e w' => e = .returned (.int .i64 r) ∧ Below w.heap.size w w' := by
  subst hn hr; exact distance_any ao cap l wt m o w hc hl hx h1 h2 h3 h4 h5 h6

theorem disc_n (ao bo : Option Addr) (ca cb n : Nat) (la lb : List Int) (hn : la.length = n) (wt m o : Int) (w : World) (ha : Lies w ao la) (hb : Lies w bo lb) (hla : n ≤ 131072) (hlb : lb.length ≤ 1099511627776)
    (hca : n ≤ ca) (hcb : lb.length ≤ cb) (hca' : ca ≤ 9223372036854775807) (hcb' : cb ≤ 9223372036854775807) (h1 : 1 ≤ m) (h2 : m ≤ 2147483646) (h3 : 1 ≤ wt) (h4 : wt ≤ 65536) :
    Calls Try.prog 17 #[.agg #[.int .u64 wt, .int .u64 m, .int .i64 o], .slice ao n ca, .slice bo lb.length cb] w fun e w' => ∃ r : Int, e = .returned (.int .i64 r) ∧ Below w.heap.size w w' := by
  subst hn; exact disc_any ao bo ca cb la lb wt m o w ha hb (by omega) hlb hca hcb hca' hcb' h1 h2 h3 h4

set_option maxRecDepth 100000 in
set_option maxHeartbeats 4000000 in
theorem offset_main (bl : Nat) (ao : Option Addr) (ca n : Nat) (la : List Int) (wt m : Int) (bt : Bool) (R : Nat) (w : World)
    (HL : Hid (w.heap[bl]? = some (.cells #[.slice ao n ca, .bool false] 38 (0, 0)))) (ha : Lies w ao la) (HN : Hid (la.length = n)) (hn0 : 1 ≤ n) (hn : n ≤ 131072) (hca : n ≤ ca) (hca' : ca ≤ 9223372036854775807)
    (hx : ∀ x ∈ la, 0 ≤ x ∧ x < 4294967296) (h1 : 1 ≤ m) (h2 : m ≤ 2147483646) (h3 : 1 ≤ wt) (h4 : wt ≤ 65536)
    (hbt : decide (2 * (n : Int) ≤ wt * m) = bt) (HR : Hid (R = cond bt 31 16)) :
    Calls Try.prog 12 #[.pointer (some ⟨bl, 0, none⟩), .int .u64 wt, .int .u64 m] w fun e w' => (∃ s : Int, e = .returned (.int .i64 (s * 134217728)) ∧ -(R : Int) ≤ s ∧ s ≤ R ∧ ∀ t : Int, -(R : Int) ≤ t → t ≤ R → D wt m (t * 134217728) la ≤ 2 * D wt m (s * 134217728) la) ∧ Below w.heap.size w w' := by
  have hbl := blk_lt HL.out
  have l0 : w.cell? ⟨bl, 0, none⟩ = some (.slice ao n ca) := cell_of_row w _ 0 _ _ _ HL.out
  have l1 : w.cell? ⟨bl, 1, none⟩ = some (.bool false) := cell_of_row w _ 1 _ _ _ HL.out
  have hnz : ((n : Int) == 0) = false := by rw [beq_eq_false_iff_ne]; omega
  have b0 : 0 ≤ wt * m := Int.mul_nonneg (by omega) (by omega)
  have b1 : wt * m ≤ 65536 * 2147483646 := Int.mul_le_mul h4 h2 (by omega) (by omega)
  have hR31 : R ≤ 31 := by rw [HR.out]; cases bt <;> decide
  obtain ⟨i0, hi, hz0, hz1, hz2⟩ := info_parts Try.info42
  go_enter Try.func12, Try.ntmps12
  go_upto_if 47 with fail
  go_cut [8] from 24 (fun s w1 => s = .int .i64 (R : Int) ∧ w1 = w)
  case first =>
    cases bt
    · go_wp2
      go_meet
      case rel => exact ⟨by rw [HR.out]; rfl, rfl⟩
    · go_wp2
      go_meet
      case rel => exact ⟨by rw [HR.out]; rfl, rfl⟩
  case rest =>
    obtain ⟨rfl, hw⟩ := hcut
    have hw' := hw.symm
    clear hw
    subst hw'
    have Hbt : Hid (decide (2 * (n : Int) ≤ wt * m) = bt) := hbt
    clear hbt
    go_wp2_with (at_make; refine wpList_make_own _ rfl _ _ 40 rfl w.heap.size 42 i0 (.agg #[.int .u64 0, .int .u64 0, .int .i64 0]) 3 Try.underlying40 hi hz0 hz1 _ _ _ (2 * R + 1) rfl rfl (by omega) (by rw [hz2]; omega) (by unfold maxLen; omega) (Nat.le_refl _) ?_; intro w1 hown hgrow)
    have hB1 : Below w.heap.size w w1 := (Below.refl _ _).grown hgrow (Nat.le_refl _) (fun _ h => by cases h)
    have hO1 : OwnT wt m w.heap.size (.slice (some ⟨w.heap.size, 0, none⟩) 0 (2 * R + 1)) [] w1 := hown
    clear hown hgrow
    go_loopw [9, 10] (fun v i wr => ∃ (t : Nat) (os : List Int), t ≤ R + 1 ∧ i = .int .i64 t ∧ OwnT wt m w.heap.size v os wr ∧ Hid (Cov os t) ∧ Below w.heap.size w wr) (fun _ i _ => R + 1 - (intOf i).toNat)
    case atStart => exact ⟨0, [], by omega, rfl, hO1, Cov.zero, hB1⟩
    case round =>
      clear hO1 hB1
      obtain ⟨t, os, ht, rfl, hO, HC, hB⟩ := hrel
      have hBs := hB.size
      have hol := HC.out.2.2
      by_cases hlt : t ≤ R
      · have hltI : (t : Int) ≤ (R : Int) := by omega
        by_cases ht0 : t = 0
        · subst ht0
          have hos : os = [] := List.eq_nil_of_length_eq_zero (by omega)
          subst hos
          go_wp2_with (at_builtin; refine append_pl rfl (.tmp 61) (.tmp 67) rfl w.heap.size _ [] rfl hO rfl (by simp) hBs ?_; intro v' w3 hO3 hb3)
          go_roundw
          case rel => exact ⟨1, [0], by omega, rfl, by simpa using hO3, Cov.one, hB.trans hb3⟩
          case measure => simp [intOf]
        · have ht0I : (0 : Int) < (t : Int) := by omega
          have esh : (t : Int) * 4294967296 / 2 / 16 = (t : Int) * 134217728 := by omega
          go_wp2_with (first
            | (at_builtin; refine append_pl rfl (.tmp 61) (.tmp 67) rfl w.heap.size _ os rfl hO rfl (by omega) hBs ?_; intro v' w3 hO3 hb3; have hBs3 := (hB.trans hb3).size)
            | (at_builtin; refine append_pl rfl (.tmp 71) (.tmp 76) rfl w.heap.size _ _ rfl hO3 rfl (by simp; omega) hBs3 ?_; intro v'' w4 hO4 hb4))
          go_roundw
          case rel => exact ⟨t + 1, _, by omega, by go_num, hO4, HC.out.step (by omega), (hB.trans hb3).trans hb4⟩
          case measure => simp [intOf]; omega
      · obtain rfl : t = R + 1 := by omega
        have hpos : 0 < os.length := by
          have := HC.out.2.1 0 (by omega) (by omega)
          exact List.length_pos_of_mem this
        obtain ⟨g, cap, hv, hgc, hg1, hg2, hT⟩ := hO.lies hpos
        subst hv
        obtain ⟨N, hN⟩ : ∃ N, os.length = N := ⟨_, rfl⟩
        have HNo : Hid (os.length = N) := hN
        rw [hN] at hgc hol hpos ⊢
        clear hN hO
        obtain ⟨j0, hj, hy0, hy1, hy2⟩ := info_parts Try.info2
        go_wp2_with (at_make; refine wpList_make_full _ rfl _ _ 22 rfl wr.heap.size 2 j0 (.int .i64 0) 1 Try.underlying22 hj hy0 hy1 _ _ _ _ N rfl rfl rfl rfl (by rw [hy2]; omega) (by unfold maxLen; omega) (Nat.le_refl _) ?_; intro w2 hown hgrow)
        have hrow := row_made hown
        have hb2 : Below wr.heap.size wr w2 := (Below.refl _ _).grown hgrow (Nat.le_refl _) (fun _ h => by cases h)
        clear hown hgrow
        obtain ⟨f, hf⟩ : ∃ f : Nat → Int, ∀ j, f j = D wt m (os.getD j 0) la := ⟨fun j => D wt m (os.getD j 0) la, fun _ => rfl⟩
        have Hf : Hid (∀ j, f j = D wt m (os.getD j 0) la) := hf
        have Hfb : Hid (∀ j, 0 ≤ f j ∧ f j ≤ 4294967296) := fun j => by rw [hf]; exact D_bd _ _ _ _
        clear hf
        have hD0 := DRow.start hrow f
        clear hrow
        obtain ⟨wB, hwB⟩ : ∃ x, wr = x := ⟨_, rfl⟩
        obtain ⟨gd, hgd⟩ : ∃ x, wr.heap.size = x := ⟨_, rfl⟩
        rw [hgd] at hD0 hb2 hg2 hBs ⊢
        have hBgd : wB.heap.size ≤ gd := by rw [← hwB, hgd]; exact Nat.le_refl _
        rw [hwB] at hb2 hB hT
        clear hwB hgd
        have haB := ha.below hB
        have hBs0 : wB.heap.size ≤ gd := hBgd
        have l0B : wB.cell? ⟨bl, 0, none⟩ = some (.slice ao n ca) := by rw [hB.cell hbl]; exact l0
        go_loopw [13, 83] (fun z i wr => ∃ (k : Nat) (F : Int), k ≤ N ∧ i = .int .i64 k ∧ z = .int .i64 F ∧ 0 ≤ F ∧ F ≤ 4294967296 ∧ DRow wr gd N k f ∧ Hid (MaxF F f k) ∧ Below gd wB wr) (fun _ i _ => N - (intOf i).toNat)
        case atStart => exact ⟨0, 0, by omega, rfl, rfl, by omega, by omega, hD0, MaxF.zero f, hb2⟩
        case round =>
          clear hD0
          obtain ⟨k, F, hk, rfl, rfl, hF0, hF1, hD, HM, hbq⟩ := hrel
          have hBq : Below w.heap.size w wr := hB.trans (hbq.mono hBs)
          by_cases hlt : k < N
          · obtain ⟨t0, t1, t2⟩ := hT.below hbq hg2 k (by have := HNo.out; omega)
            obtain ⟨s0, hs0, hs1, hs2⟩ := HC.out.1 (os.getD k 0) (by
              have hk' : k < os.length := by have := HNo.out; omega
              rw [show os.getD k 0 = os[k] by simp [List.getD, hk']]; exact List.getElem_mem hk')
            have fk := Hf.out k
            have fkb := Hfb.out k
            generalize hok : os.getD k 0 = ok at *
            have ok1 : -4294967296 < ok := by omega
            have ok2 : ok < 4294967296 := by omega
            have Hfk : Hid (f k = D wt m ok la) := fk
            clear fk hok hs0 hs1 hs2
            have l0q : wr.cell? ⟨bl, 0, none⟩ = some (.slice ao n ca) := by rw [hBq.cell hbl]; exact l0
            have hltI : (k : Int) < (N : Int) := by omega
            have hgl := hD.lt
            have hglt : g < wr.heap.size := by have := hbq.size; omega
            have hblt : bl < wr.heap.size := by have := hBq.size; omega
            have haq := haB.below (hbq.mono hBs0)
            go_wp2
            have hgne : wr.heap.size ≠ gd := by omega
            have hgbl : bl ≠ gd := by have := hB.size; omega
            go_region_held3 (fun w' => w'.cell? ⟨wr.heap.size, 0, none⟩ = some (.int .u64 wt) ∧ w'.cell? ⟨wr.heap.size, 1, none⟩ = some (.int .u64 m) ∧ w'.cell? ⟨wr.heap.size, 2, none⟩ = some (.int .i64 ok) ∧ w'.cell? ⟨bl, 0, none⟩ = some (.slice ao n ca)) (go_keep) (first
              | (go_at_call 13; refine (distance_n ao n ca la HN.out wt m ok _ (by exact haq.below (((Below.refl _ _).alloc (Nat.le_refl _) _).drew)) hn hx h1 h2 h3 h4 ok1 ok2 (f k) Hfk.out).mono ?_; rintro e w2 ⟨rfl, hb3⟩; have hW2 : Below wr.heap.size wr w2 := Below.trans (by exact ⟨rfl, rfl, rfl, by simp, fun q hq => Below.heap_alloc _ _ _ hq⟩) (hb3.mono (by simp)); have hD2 := hD.below hW2 hgl; have q0 : w2.cell? ⟨wr.heap.size, 0, none⟩ = some (.int .u64 wt) := (hb3.cell (p := ⟨wr.heap.size, 0, none⟩) (by simp)).trans (by exact cell_of_row (wr.alloc _) _ 0 _ _ _ (heap_alloc_new _ _)); have q1 : w2.cell? ⟨wr.heap.size, 1, none⟩ = some (.int .u64 m) := (hb3.cell (p := ⟨wr.heap.size, 1, none⟩) (by simp)).trans (by exact cell_of_row (wr.alloc _) _ 1 _ _ _ (heap_alloc_new _ _)); have q2 : w2.cell? ⟨wr.heap.size, 2, none⟩ = some (.int .i64 ok) := (hb3.cell (p := ⟨wr.heap.size, 2, none⟩) (by simp)).trans (by exact cell_of_row (wr.alloc _) _ 2 _ _ _ (heap_alloc_new _ _)); have q3 : w2.cell? ⟨bl, 0, none⟩ = some (.slice ao n ca) := (hW2.cell (p := ⟨bl, 0, none⟩) hblt).trans l0q; obtain ⟨z, cz⟩ := hD2.cellAt k hlt; have fz := hD2.free k; have r0 : ∀ v, (w2.setCell ⟨gd, k, none⟩ v).cell? ⟨wr.heap.size, 0, none⟩ = some (.int .u64 wt) := fun v => (other_cell w2 v hgne).trans q0; have r1 : ∀ v, (w2.setCell ⟨gd, k, none⟩ v).cell? ⟨wr.heap.size, 1, none⟩ = some (.int .u64 m) := fun v => (other_cell w2 v hgne).trans q1; have r2 : ∀ v, (w2.setCell ⟨gd, k, none⟩ v).cell? ⟨wr.heap.size, 2, none⟩ = some (.int .i64 ok) := fun v => (other_cell w2 v hgne).trans q2; have r3 : ∀ v, (w2.setCell ⟨gd, k, none⟩ v).cell? ⟨bl, 0, none⟩ = some (.slice ao n ca) := fun v => (other_cell w2 v hgbl).trans q3))
            have hD3 := hD2.set hlt
            have hb4 : Below gd wB (w2.setCell ⟨gd, k, none⟩ (.int .i64 (f k))) := (hbq.trans (hW2.mono (by omega))).setCell (p := ⟨gd, k, none⟩) (Nat.le_refl _) _
            clear r0 r1 r2 r3 q0 q1 q2 q3 hD2 hW2 hb3
            obtain ⟨fkb0, fkb1⟩ := fkb
            go_wp2
            go_roundw
            case rel => exact ⟨k + 1, _, by omega, by go_num, rfl, by split <;> omega, by split <;> omega, hD3, HM.out.up, hb4⟩
            case measure => simp [intOf]; omega
          · obtain rfl : k = N := by omega
            obtain ⟨t0, t1, t2⟩ := hT.below hbq hg2 0 (by have := HNo.out; omega)
            obtain ⟨s0, hs0, hs1, hs2⟩ := HC.out.1 (os.getD 0 0) (by
              have hk' : 0 < os.length := by have := HNo.out; omega
              rw [show os.getD 0 0 = os[0] by simp [List.getD, hk']]; exact List.getElem_mem hk')
            generalize hok : os.getD 0 0 = ok at *
            have ok1 : -4294967296 < ok := by omega
            have ok2 : ok < 4294967296 := by omega
            clear hok hs0 hs1 hs2
            simp only [Nat.zero_mul, Nat.zero_add] at t0 t1 t2
            have hblt : bl < wr.heap.size := by have := hBq.size; omega
            have HLq : Hid (wr.heap[bl]? = some (.cells #[.slice ao n ca, .bool false] 38 (0, 0))) := (hBq.block bl hbl).trans HL.out
            have haq := haB.below (hbq.mono hBs0)
            have hNpos : (0 : Int) < (k : Int) := by omega
            go_upto_if 104 with fail
            go_cut [16, 17] from 24 (fun s t w5 => (bt = true → ∃ ao2 n2 c2, s = .slice ao2 n2 c2 ∧ n2 ≤ 131072 ∧ n2 ≤ c2 ∧ LiesP w5 ao2 n2) ∧ (bt = false → ∃ ao2 c2 lb, t = .slice ao2 (List.length lb) c2 ∧ Lies w5 ao2 lb ∧ lb.length ≤ 1099511627776 ∧ lb.length ≤ c2 ∧ c2 ≤ 9223372036854775807) ∧ Below wr.heap.size wr w5)
            case first =>
              cases bt
              · have hb' : wt * m < 2 * (n : Int) := by have := Hbt.out; simpa using this
                have hmm : 1 * m ≤ wt * m := Int.mul_le_mul_of_nonneg_right h3 (by omega)
                go_wp2_with (go_at_call 15; refine (turns_any wt m ok _ h1 (by omega) h3 h4 (by omega)).mono ?_; rintro e w5 ⟨v, c, rfl, hv, hc, hb5⟩; obtain ⟨ao2, c2, lb, rfl, hlb, hcl, hcm, hll⟩ := hv.lies)
                go_meet
                case rel => exact ⟨fun h => (by cases h), fun _ => ⟨ao2, c2, lb, by rw [hlb], hll, by omega, hcl, hcm⟩, hb5⟩
              · go_wp2_with (go_at_call 14; refine (arcs_any bl ao ca false la n wt m ok _ HLq haq HN hn hx h1 h2 h3 h4 ok1 ok2).mono ?_; rintro e w5 ⟨v, c, rfl, hv, hc, hb5⟩; obtain ⟨ao2, c2, rfl, hcc, hll⟩ := hv.lies)
                go_meet
                case rel => exact ⟨fun _ => ⟨ao2, c, c2, rfl, hc, hcc, hll⟩, fun h => (by cases h), hb5⟩
            case rest =>
              obtain ⟨hP, hO, hb5⟩ := hcut
              have hBc : Below w.heap.size w wc := hBq.trans (hb5.mono hBq.size)
              have hDc := hD.below hb5 hD.lt
              have hTc := (hT.below hbq hg2).below hb5 (by have := hD.lt; omega)
              have hac := haq.below hb5
              have HPO : Hid ((bt = true → _) ∧ (bt = false → _)) := ⟨hP, hO⟩
              clear hP hO hb5 hD hT hbq haq hBq haB t0 t1 t2 HLq
              go_wp2
              go_loopg [18, 19, 20, 116] k (fun gq b bs fo i wr => ∃ (j : Nat) (B : Nat) (fd : Bool) (z : Int), j ≤ k ∧ k - j ≤ gq ∧ i = .int .i64 j ∧ b = .int .i64 B ∧ B < k ∧ bs = .int .i64 z ∧ fo = .bool fd ∧ Hid ((fd = false ∧ ∀ q, q < j → 2 * f q < F) ∨ (fd = true ∧ F ≤ 2 * f B)) ∧ Below wc.heap.size wc wr)
              case atStart => exact ⟨0, 0, false, 0, by omega, by omega, rfl, rfl, by omega, rfl, rfl, .inl ⟨rfl, fun q h => by omega⟩, Below.refl _ _⟩
              case round =>
                obtain ⟨j, B, fd, z, hj, hjg, rfl, rfl, hBk, rfl, rfl, HI, hbr⟩ := hrel
                by_cases hlt : j < k
                · obtain ⟨t0, t1, t2⟩ := hTc.below hbr (by have := hDc.lt; omega) j (by have := HNo.out; omega)
                  have dj := (hDc.below hbr hDc.lt).read j hlt
                  obtain ⟨fj0, fj1⟩ := Hfb.out j
                  generalize hoj : os.getD j 0 = oj at *
                  clear hoj
                  have hltI : (j : Int) < (k : Int) := by omega
                  have hgr : gd < wr.heap.size := by have := hDc.lt; have := hbr.size; omega
                  have hgr2 : g < wr.heap.size := by omega
                  by_cases hq : 2 * f j < F
                  · have HI' : Hid ((fd = false ∧ ∀ q, q < j + 1 → 2 * f q < F) ∨ (fd = true ∧ F ≤ 2 * f B)) := by
                      rcases HI.out with ⟨h, h'⟩ | h
                      · refine .inl ⟨h, fun q hq' => ?_⟩
                        by_cases e : q = j
                        · subst e; exact hq
                        · exact h' q (by omega)
                      · exact .inr h
                    go_wp2
                    go_roundg (k - (j + 1))
                    case measure => omega
                    case rel => exact ⟨j + 1, B, fd, z, by omega, by omega, by go_num, rfl, hBk, rfl, rfl, HI', hbr.alloc hbr.size _⟩
                  · have hq' : F ≤ 2 * f j := by omega
                    have hblr : bl < wr.heap.size := by have := hBc.size; have := hbr.size; omega
                    have l0r : wr.cell? ⟨bl, 0, none⟩ = some (.slice ao n ca) := by rw [(hBc.trans (hbr.mono hBc.size)).cell hbl]; exact l0
                    have har := hac.below hbr
                    go_upto_if 128 with fail
                    go_cut [23] from 117 to 149 (fun s w6 => (∃ y : Int, s = .int .i64 y) ∧ Below wc.heap.size wc w6)
                    case first =>
                      cases bt
                      · obtain ⟨ao2, c2, lb, rfl, hl2, hl3, hl4, hl5⟩ := HPO.out.2 rfl
                        have hl2r := hl2.below hbr
                        go_wp2
                        go_region_held3 (fun w' => w'.cell? ⟨wr.heap.size, 0, none⟩ = some (.int .u64 wt) ∧ w'.cell? ⟨wr.heap.size, 1, none⟩ = some (.int .u64 m) ∧ w'.cell? ⟨wr.heap.size, 2, none⟩ = some (.int .i64 oj) ∧ w'.cell? ⟨bl, 0, none⟩ = some (.slice ao n ca)) (go_keep) (first
                          | (go_at_call 17; refine (disc_n ao ao2 ca c2 n la lb HN.out wt m oj _ (by exact har.below (((Below.refl _ _).alloc (Nat.le_refl _) _).drew)) (by exact hl2r.below (((Below.refl _ _).alloc (Nat.le_refl _) _).drew)) hn hl3 hca hl4 hca' hl5 h1 h2 h3 h4).mono ?_; rintro e w7 ⟨r, rfl, hb7⟩; have hW7 : Below wr.heap.size wr w7 := Below.trans (by exact ⟨rfl, rfl, rfl, by simp, fun q hq => Below.heap_alloc _ _ _ hq⟩) (hb7.mono (by simp)); have q0 : w7.cell? ⟨wr.heap.size, 0, none⟩ = some (.int .u64 wt) := (hb7.cell (p := ⟨wr.heap.size, 0, none⟩) (by simp)).trans (by exact cell_of_row (wr.alloc _) _ 0 _ _ _ (heap_alloc_new _ _)); have q1 : w7.cell? ⟨wr.heap.size, 1, none⟩ = some (.int .u64 m) := (hb7.cell (p := ⟨wr.heap.size, 1, none⟩) (by simp)).trans (by exact cell_of_row (wr.alloc _) _ 1 _ _ _ (heap_alloc_new _ _)); have q2 : w7.cell? ⟨wr.heap.size, 2, none⟩ = some (.int .i64 oj) := (hb7.cell (p := ⟨wr.heap.size, 2, none⟩) (by simp)).trans (by exact cell_of_row (wr.alloc _) _ 2 _ _ _ (heap_alloc_new _ _)); have q3 : w7.cell? ⟨bl, 0, none⟩ = some (.slice ao n ca) := (hW7.cell (p := ⟨bl, 0, none⟩) hblr).trans l0r))
                        go_wp2
                        go_meet
                        case rel => exact ⟨⟨_, rfl⟩, hbr.trans (hW7.mono hbr.size)⟩
                      · obtain ⟨ao2, n2, c2, rfl, hl1, hl2, hl3⟩ := HPO.out.1 rfl
                        have hl3r := (hl3.below hbr).below ((Below.refl _ _).alloc (Nat.le_refl _) (.cells #[.int .u64 wt, .int .u64 m, .int .i64 oj] 42))
                        go_wp2_with (go_at_call 16; refine (splits_any ao2 n2 c2 wt m oj _ hl3r hl1 hl2 h1 h2).mono ?_; rintro e w7 ⟨r, rfl, hb7⟩)
                        go_meet
                        case rel => exact ⟨⟨_, rfl⟩, (hbr.alloc hbr.size _).trans (hb7.mono (by have := hbr.size; simp; omega))⟩
                    case rest =>
                      obtain ⟨⟨y, rfl⟩, hb6⟩ := hcut
                      cases fd
                      · clear HI
                        go_wp2
                        go_roundg (k - (j + 1))
                        case measure => omega
                        case rel => exact ⟨j + 1, j, true, y, by omega, by omega, by go_num, rfl, hlt, rfl, rfl, .inr ⟨rfl, hq'⟩, hb6⟩
                      · have hKf : F ≤ 2 * f B := by
                          rcases HI.out with ⟨h, _⟩ | ⟨_, h⟩
                          · cases h
                          · exact h
                        clear HI
                        by_cases hyz : z < y
                        · go_wp2
                          go_roundg (k - (j + 1))
                          case measure => omega
                          case rel => exact ⟨j + 1, j, true, y, by omega, by omega, by go_num, rfl, hlt, rfl, rfl, .inr ⟨rfl, hq'⟩, hb6⟩
                        · go_wp2
                          go_roundg (k - (j + 1))
                          case measure => omega
                          case rel => exact ⟨j + 1, B, true, z, by omega, by omega, by go_num, rfl, hBk, rfl, rfl, .inr ⟨rfl, hKf⟩, hb6⟩
                · obtain rfl : j = k := by omega
                  have hfin : F ≤ 2 * f B := by
                    rcases HI.out with ⟨_, h⟩ | ⟨_, h⟩
                    · exfalso
                      rcases HM.out.2 with h0 | ⟨q, hq, e⟩
                      · have h1' := h 0 (by omega); have := (Hfb.out 0).1; omega
                      · have h1' := h q hq; omega
                    · exact h
                  obtain ⟨t0, t1, t2⟩ := hTc.below hbr (by have := hDc.lt; omega) B (by have := HNo.out; omega)
                  have hB' : B < os.length := by have := HNo.out; omega
                  obtain ⟨s0, hs0, hs1, hs2⟩ := HC.out.1 (os.getD B 0) (by
                    rw [show os.getD B 0 = os[B] by simp [List.getD, hB']]; exact List.getElem_mem hB')
                  have FIN : Hid (∀ t : Int, -(R : Int) ≤ t → t ≤ R → D wt m (t * 134217728) la ≤ 2 * D wt m (s0 * 134217728) la) := by
                    intro t ht1 ht2
                    have hmem := HC.out.2.1 t (by omega) (by omega)
                    obtain ⟨q, hq, e⟩ := List.getElem_of_mem hmem
                    have e1 : f q = D wt m (t * 134217728) la := by
                      rw [Hf.out q, show os.getD q 0 = os[q] by simp [List.getD, hq], e]
                    have e2 : f B = D wt m (s0 * 134217728) la := by rw [Hf.out B, hs0]
                    have := HM.out.1 q (by have := HNo.out; omega)
                    rw [← e1, ← e2]; omega
                  rw [hs0] at t2
                  have hBkI : (B : Int) < (j : Int) := by omega
                  clear hs0 HM HI
                  go_wp2
                  go_ret
                  exact ⟨⟨s0, rfl, by omega, by omega, FIN.out⟩, hBc.trans (hbr.mono hBc.size)⟩

end Go.Proofs.Qxb6619060a
