/-
  SEAT b6619060a: THE CONTRACT OF ZZLaidOutOffset; THE LAW's WALK.
-/
import Derived.Test.Qxb6619060aOffset
import Derived.Laws.CopyOwn
namespace Go.Proofs.Qxb6619060a
open Go.RowKit

set_option maxHeartbeats 400000 in
/-- with the lay-out full or empty the offset is 0 -/
theorem offset_zero (bl : Nat) (ao : Option Addr) (ca n : Nat) (f : Bool) (wt m : Int) (w : World)
    (HL : Hid (w.heap[bl]? = some (.cells #[.slice ao n ca, .bool f] 38 (0, 0)))) (h : f = true ∨ n = 0) :
    Calls Try.prog 12 #[.pointer (some ⟨bl, 0, none⟩), .int .u64 wt, .int .u64 m] w fun e w' => e = .returned (.int .i64 0) ∧ w' = w := by
  have l0 : w.cell? ⟨bl, 0, none⟩ = some (.slice ao n ca) := cell_of_row w _ 0 _ _ _ HL.out
  have l1 : w.cell? ⟨bl, 1, none⟩ = some (.bool f) := cell_of_row w _ 1 _ _ _ HL.out
  cases f
  · obtain rfl : n = 0 := by rcases h with h | h; cases h; exact h
    clear h
    go_enter Try.func12, Try.ntmps12
    go_wp2
    go_ret
    exact ⟨rfl, rfl⟩
  · clear h
    go_enter Try.func12, Try.ntmps12
    go_wp2
    go_ret
    exact ⟨rfl, rfl⟩

set_option maxHeartbeats 400000 in
theorem zz_zero (ao : Option Addr) (ca n : Nat) (f : Bool) (wt m : Int) (w : World) (h : f = true ∨ n = 0) :
    Calls Try.prog 9 #[.slice ao n ca, .bool f, .int .u64 wt, .int .u64 m] w fun e w' => e = .returned (.int .i64 0) ∧ Below w.heap.size w w' := by
  have H : Hid (f = true ∨ n = 0) := h
  clear h
  go_enter Try.func9, Try.ntmps9
  go_wp2_with (go_at_call 12; refine (offset_zero w.heap.size ao ca n f wt m _ (by exact heap_alloc_new _ _) H.out).mono ?_; rintro e w1 ⟨rfl, rfl⟩)
  go_ret
  exact ⟨rfl, (Below.refl _ _).alloc (Nat.le_refl _) _⟩

/-- what the offset is good for -/
def Good (wt m : Int) (la : List Int) (R : Nat) (s : Int) : Prop :=
  -(R : Int) ≤ s ∧ s ≤ R ∧ ∀ t : Int, -(R : Int) ≤ t → t ≤ R → D wt m (t * 134217728) la ≤ 2 * D wt m (s * 134217728) la

set_option maxHeartbeats 400000 in
theorem zz_main (ao : Option Addr) (ca n : Nat) (la : List Int) (wt m : Int) (bt : Bool) (R : Nat) (w : World)
    (ha : Lies w ao la) (HN : Hid (la.length = n)) (hn0 : 1 ≤ n) (hn : n ≤ 131072) (hca : n ≤ ca) (hca' : ca ≤ 9223372036854775807)
    (hx : ∀ x ∈ la, 0 ≤ x ∧ x < 4294967296) (h1 : 1 ≤ m) (h2 : m ≤ 2147483646) (h3 : 1 ≤ wt) (h4 : wt ≤ 65536)
    (hbt : decide (2 * (n : Int) ≤ wt * m) = bt) (HR : Hid (R = cond bt 31 16)) :
    Calls Try.prog 9 #[.slice ao n ca, .bool false, .int .u64 wt, .int .u64 m] w fun e w' => (∃ s : Int, e = .returned (.int .i64 (s * 134217728)) ∧ Good wt m la R s) ∧ Below w.heap.size w w' := by
  have Hbt : Hid (decide (2 * (n : Int) ≤ wt * m) = bt) := hbt
  have hx' : Hid (∀ x ∈ la, 0 ≤ x ∧ x < 4294967296) := hx
  clear hbt hx
  go_enter Try.func9, Try.ntmps9
  go_wp2_with (go_at_call 12; refine (offset_main w.heap.size ao ca n la wt m bt R _ (by exact heap_alloc_new _ _) (by exact ha.below ((Below.refl _ _).alloc (Nat.le_refl _) _)) HN hn0 hn hca hca' hx'.out h1 h2 h3 h4 Hbt.out HR).mono ?_; rintro e w1 ⟨⟨s, rfl, hs⟩, hb1⟩)
  go_ret
  exact ⟨⟨s, rfl, hs⟩, ((Below.refl _ _).alloc (Nat.le_refl _) _).trans (hb1.mono (by simp))⟩

theorem zzDist_n (ao : Option Addr) (n cap : Nat) (l : List Int) (hn : l.length = n) (wt m o : Int) (w : World) (hc : Lies w ao l) (hl : n ≤ 131072) (hx : ∀ x ∈ l, 0 ≤ x ∧ x < 4294967296)
    (h1 : 1 ≤ m) (h2 : m ≤ 2147483646) (h3 : 1 ≤ wt) (h4 : wt ≤ 65536) (h5 : -4294967296 < o) (h6 : o < 4294967296) (r : Int) (hr : D wt m o l = r) :
    Calls Try.prog 10 #[.slice ao n cap, .int .u64 wt, .int .u64 m, .int .i64 o] w fun e w' => e = .returned (.int .i64 r) ∧ w' = w := by
  subst hn hr; exact zzDist_any ao cap l wt m o w hc hl hx h1 h2 h3 h4 h5 h6

/-! ### the copy -/
theorem splice_all {α : Type} (L cs : List α) (h : L.length = cs.length) : splice L 0 cs = cs := by
  simp [splice, List.drop_eq_nil_of_le, h]
theorem lies_of_row {w : World} {g : Nat} {l : List Int} (h : w.heap[g]? = some (.cells (l.map (Value.int .u64)).toArray 23 (0, 0))) : Lies w (some ⟨g, 0, none⟩) l := by
  intro j hj
  refine ⟨g, 0, rfl, ?_⟩
  rw [cell_of_row w g _ _ 23 (0, 0) h]
  simp [List.getD, hj]
theorem at_dst (n : Nat) {P : Program} {ops : Array Oper} {rest : List Oper} {op : Op} {ty : TypeId} {pos : String} {after : Array Edge} {a : Act} {w : World} {Q : Exit → Act → World → Prop}
    (h : wpList P ops Q (⟨some n, op, ty, pos, after, none⟩ :: rest) a w) : wpList P ops Q (⟨some n, op, ty, pos, after, none⟩ :: rest) a w := h
theorem Try.size23 : (Try.prog.info? 23).map (·.size) = some 1 := by kernel_rfl
theorem neq_nil (w : World) (a : Option Addr) (n c n' c' : Nat) : (binOp .neq 28 (.slice a n c) (.slice none n' c')).run Try.prog w = .ok (.bool a.isSome) w := by
  have := run_neq_slice_nil_any (P := Try.prog) w _ _ a n c n' c' Try.underlying28
  rw [this]; cases a <;> rfl
theorem make_law {w : World} {ops : Array Oper} {rest : List Oper} {o : Oper} {a : Act} {Q : Exit → Act → World → Prop} (hgd : o.guard = none) (l c : Operand) (hop : o.op = Op.makeSlice 28 l c)
    (L : Int) (n : Nat) (hl : a.eval l = .int .i64 L) (hc : a.eval c = .int .i64 L) (hL : L = (n : Int)) (hn : n ≤ 2097152)
    (h : ∀ w1, Row .u64 23 w1 w.heap.size n → Below w.heap.size w w1 → wpList Try.prog ops Q rest (a.put o.dst (.slice (some ⟨w.heap.size, 0, none⟩) n n)) w1) :
    wpList Try.prog ops Q (o :: rest) a w := by
  obtain ⟨i0, hi, hz0, hz1, hz2⟩ := info_parts Try.info23
  refine wpList_make_full w hgd l c 28 hop w.heap.size 23 i0 (.int .u64 0) 1 Try.underlying28 hi hz0 hz1 .i64 .i64 L L n hl hc hL hL (by rw [hz2]; omega) (by unfold maxLen; omega) (Nat.le_refl _) ?_
  intro w1 hown hgrow
  exact h w1 (row_made hown) ((Below.refl _ _).grown hgrow (Nat.le_refl _) (fun _ h => by cases h))
theorem copy_all {w : World} {ops : Array Oper} {rest : List Oper} {o : Oper} {a : Act} {Q : Exit → Act → World → Prop} (hgd : o.guard = none) (d s : Operand)
    (ho : o.op = .call { callee := .builtin .copy, args := #[d, s], argTypes := #[28, 28] }) (g n sCap : Nat) (sp : Option Addr) (hd : a.eval d = .slice (some ⟨g, 0, none⟩) n n) (hs : a.eval s = .slice sp n sCap)
    (l : List Int) (hl : l.length = n) (hg : Row .u64 23 w g n) (w0 : World) (hc : Lies w0 sp l) (hb : Below w0.heap.size w0 w) (hBg : w0.heap.size ≤ g)
    (h : ∀ w', Lies w' (some ⟨g, 0, none⟩) l → Below w0.heap.size w0 w' → wpList Try.prog ops Q rest (a.put o.dst (goInt n)) w') :
    wpList Try.prog ops Q (o :: rest) a w := by
  obtain ⟨cur, h1, h2, _⟩ := hg
  have hcw := hc.below hb
  refine wpList_copy_splice hgd d s 28 28 ho 23 Try.underlying28 Try.size23 _ sp n n n sCap hd hs g 0 cur 23 h1 (l.map (Value.int .u64)) ?_ ?_ (by simp; omega) (ints_oneCell _ _) w0.heap.size w0 hb hBg ?_
  · rw [List.length_map, hl]; exact (Nat.min_self _).symm
  · intro hp
    have hp' : 0 < l.length := by simpa using hp
    obtain ⟨b, off', e, _⟩ := hcw 0 hp'
    refine ⟨rfl, ⟨b, off', none⟩, e, fun j v hv => ?_⟩
    have hj : j < l.length := by have := (List.getElem?_eq_some_iff.1 hv).1; simpa using this
    obtain ⟨b2, off2, e2, hcell⟩ := hcw j hj
    rw [e] at e2
    simp only [Option.some.injEq, Addr.mk.injEq, and_true] at e2
    obtain ⟨rfl, rfl⟩ := e2
    rw [show (⟨b, off', none⟩ : Addr).add j = ⟨b, off' + j, none⟩ from by simp [Addr.add], hcell, ← hv]
    simp [List.getD, hj]
  · intro w' hg' hb'
    rw [List.length_map, hl]
    refine h w' (lies_of_row ?_) hb'
    rw [hg'.out, splice_all _ _ (by rw [List.length_map, hl]; exact h2)]

set_option maxRecDepth 100000 in
set_option maxHeartbeats 4000000 in
theorem law_any (ao : Option Addr) (n ca : Nat) (la : List Int) (full : Bool) (wt m : Int) (w : World) (ha : Lies w ao la) (HN : Hid (la.length = n)) (hn : n ≤ 131072) (hca : n ≤ ca) (hca' : ca ≤ 9223372036854775807)
    (H0 : Hid (∀ x ∈ la, 0 ≤ x)) (h1 : 1 ≤ m) (h2 : m ≤ 2147483646) (h3 : 1 ≤ wt) (h4 : wt ≤ 65536) :
    Calls Try.prog 4 #[.slice ao n ca, .bool full, .int .u64 wt, .int .u64 m] w fun e w' => e = .returned (.bool true) ∧ Below w.heap.size w w' := by
  have qn := neq_nil
  go_enter Try.func4, Try.ntmps4
  go_upto_if 41 with (go_at_call 8; go_in)
  go_cut [0] from 17 (fun s w1 => ∃ ao1 ca1, s = .slice ao1 n ca1 ∧ Lies w1 ao1 la ∧ n ≤ ca1 ∧ ca1 ≤ 9223372036854775807 ∧ Below w.heap.size w w1)
  case first =>
    cases ao with
    | none =>
      go_wp2
      go_meet
      case rel => exact ⟨_, _, rfl, ha, hca, hca', Below.refl _ _⟩
    | some x =>
      go_wp2_with (first
        | (at_make; refine make_law rfl _ _ rfl _ n rfl rfl rfl (by omega) ?_; intro w1 hrow hb1)
        | (with_reducible refine at_dst 47 ?_; refine copy_all rfl (.tmp 45) (.tmp 46) rfl _ n _ _ rfl rfl la HN.out hrow w ha hb1 (Nat.le_refl _) ?_; intro w2 hl2 hb2; clear hrow hb1))
      go_meet
      case rel => exact ⟨_, _, rfl, hl2, Nat.le_refl _, by omega, hb2⟩
  case rest =>
    obtain ⟨ao1, ca1, rfl, ha1, hca1, hca1', hbl1⟩ := hcut
    go_wp2
    go_loopg [10] n (fun gq i wr => ∃ k : Nat, k ≤ n ∧ n - k ≤ gq ∧ i = .int .i64 k ∧ Hid (∀ j, j < k → la.getD j 0 < 4294967296) ∧ Lies wr ao1 la ∧ Below w.heap.size w wr)
    case atStart => exact ⟨0, by omega, by omega, rfl, fun j hj => by omega, ha1, hbl1⟩
    case round =>
      clear ha1 hbl1
      obtain ⟨k, hk, hkg, rfl, HX, ha1, hbl1⟩ := hrel
      by_cases hlt : k < n
      · obtain ⟨b, off, x, rfl, cx, hxx, hxm⟩ := ha1.tick k (by have := HN.out; omega)
        have x0 := H0.out x hxm
        have hltI : (k : Int) < (n : Int) := by omega
        by_cases hx1 : 4294967296 ≤ x
        · clear hxx hxm
          go_wp2
          go_ret
          exact ⟨rfl, hbl1⟩
        · have HX' : Hid (∀ j, j < k + 1 → la.getD j 0 < 4294967296) := by
            intro j hj
            by_cases e : j = k
            · subst e; rw [← hxx]; omega
            · exact HX.out j (by omega)
          clear hxx hxm
          by_cases hk0 : k = 0
          · subst hk0
            have hn1 : (0 : Int) < (n : Int) := by omega
            simp only [Nat.add_zero] at cx
            go_wp2
            go_quiet (fail)
            go_wp2
            go_roundg (n - 1)
            case measure => omega
            case rel => exact ⟨1, by omega, by omega, by go_num, HX', fun j hj => ha1 j hj, below_dN hbl1 _⟩
          · obtain ⟨q, rfl⟩ : ∃ q, k = q + 1 := ⟨k - 1, by omega⟩
            obtain ⟨b', off', y, e0, cy, hyy, hym⟩ := ha1.tick q (by have := HN.out; omega)
            simp only [Option.some.injEq, Addr.mk.injEq, and_true] at e0
            obtain ⟨rfl, rfl⟩ := e0
            have hq1 : (q : Int) < (n : Int) := by omega
            have hq2 : (q : Int) + 1 < (n : Int) := by omega
            clear hyy hym
            go_wp2
            go_quiet (fail)
            go_wp2
            · go_ret
              exact ⟨rfl, below_dN hbl1 _⟩
            · go_roundg (n - (q + 2))
              case measure => omega
              case rel => exact ⟨q + 2, by omega, by omega, by go_num, HX', fun j hj => ha1 j hj, below_dN hbl1 _⟩
      · obtain rfl : k = n := by omega
        have hxb : ∀ x ∈ la, 0 ≤ x ∧ x < 4294967296 := by
          intro x hxm
          refine ⟨H0.out x hxm, ?_⟩
          obtain ⟨q, hq, e⟩ := List.getElem_of_mem hxm
          have := HX.out q (by have := HN.out; omega)
          rw [show la.getD q 0 = la[q] by simp [List.getD, hq], e] at this
          exact this
        have HXB : Hid (∀ x ∈ la, 0 ≤ x ∧ x < 4294967296) := hxb
        clear hxb HX
        by_cases hz : full = true ∨ k = 0
        · rcases hz with rfl | rfl
          · go_wp2_with (go_at_call 9; refine (zz_zero ao1 ca1 k true wt m _ (.inl rfl)).mono ?_; rintro e w5 ⟨rfl, hb5⟩)
            go_ret
            exact ⟨rfl, hbl1.trans (hb5.mono hbl1.size)⟩
          · cases full
            · go_wp2_with (go_at_call 9; refine (zz_zero ao1 ca1 0 false wt m _ (.inr rfl)).mono ?_; rintro e w5 ⟨rfl, hb5⟩)
              go_ret
              exact ⟨rfl, hbl1.trans (hb5.mono hbl1.size)⟩
            · go_wp2_with (go_at_call 9; refine (zz_zero ao1 ca1 0 true wt m _ (.inl rfl)).mono ?_; rintro e w5 ⟨rfl, hb5⟩)
              go_ret
              exact ⟨rfl, hbl1.trans (hb5.mono hbl1.size)⟩
        · have hfull : full = false := by cases full <;> simp_all
          have hk1 : 1 ≤ k := by omega
          subst hfull
          clear hz
          obtain ⟨bt, hbt⟩ : ∃ bt, decide (2 * (k : Int) ≤ wt * m) = bt := ⟨_, rfl⟩
          obtain ⟨R, hR⟩ : ∃ R : Nat, R = cond bt 31 16 := ⟨_, rfl⟩
          have HR : Hid (R = cond bt 31 16) := hR
          have Hbt : Hid (decide (2 * (k : Int) ≤ wt * m) = bt) := hbt
          clear hR
          have hR31 : R ≤ 31 := by rw [HR.out]; cases bt <;> decide
          have b0 : 0 ≤ wt * m := Int.mul_nonneg (by omega) (by omega)
          have b1 : wt * m ≤ 65536 * 2147483646 := Int.mul_le_mul h4 h2 (by omega) (by omega)
          have hkz : ((k : Int) == 0) = false := by rw [beq_eq_false_iff_ne]; omega
          go_upto_if 94 with (go_at_call 9; refine (zz_main ao1 ca1 k la wt m bt R _ ha1 HN hk1 hn hca1 hca1' HXB.out h1 h2 h3 h4 Hbt.out HR).mono ?_; rintro e w5 ⟨⟨s, rfl, hs⟩, hb5⟩)
          have ha5 := ha1.below hb5
          have hB5 := hbl1.trans (hb5.mono hbl1.size)
          clear ha1 hbl1 hb5
          go_cut [12] from 17 (fun z w6 => z = .int .i64 (R : Int) ∧ Lies w6 ao1 la ∧ Below w.heap.size w w6)
          case first =>
            cases bt
            · go_wp2
              go_meet
              case rel => exact ⟨by rw [HR.out]; rfl, ha5, hB5⟩
            · go_wp2
              go_meet
              case rel => exact ⟨by rw [HR.out]; rfl, ha5, hB5⟩
          case rest =>
            clear ha5 hB5 hbt
            obtain ⟨rfl, ha6, hB6⟩ := hcut
            obtain ⟨hs1, hs2, hs3⟩ := hs
            obtain ⟨Do, hDo⟩ : ∃ x, D wt m (s * 134217728) la = x := ⟨_, rfl⟩
            have HDo : Hid (D wt m (s * 134217728) la = Do) := hDo
            have hDb := D_bd wt m (s * 134217728) la
            rw [hDo] at hDb
            obtain ⟨hDb0, hDb1⟩ := hDb
            have HS3 : Hid (∀ t : Int, -(R : Int) ≤ t → t ≤ R → D wt m (t * 134217728) la ≤ 2 * Do) := by
              intro t a b; have := hs3 t a b; rw [hDo] at this; exact this
            clear hDo hs3
            go_wp2
            go_loopg [13, 14] (2 * R + 1) (fun gq z i wr => ∃ (t FF : Int), -(R : Int) ≤ t ∧ t ≤ R + 1 ∧ (R + 1 - t).toNat ≤ gq ∧ i = .int .i64 t ∧ z = .int .i64 FF ∧ 0 ≤ FF ∧ FF ≤ 4294967296 ∧ FF ≤ 2 * Do ∧ Lies wr ao1 la ∧ Below w.heap.size w wr)
            case atStart => exact ⟨-(R : Int), 0, by omega, by omega, by omega, rfl, rfl, by omega, by omega, by omega, ha6, hB6⟩
            case round =>
              clear ha6 hB6
              obtain ⟨t, FF, ht1, ht2, htg, rfl, rfl, hF0, hF1, hF2, ha6, hB6⟩ := hrel
              by_cases hle : t ≤ R
              · obtain ⟨dt, hdt⟩ : ∃ x, D wt m (t * 134217728) la = x := ⟨_, rfl⟩
                have Hdt : Hid (D wt m (t * 134217728) la = dt) := hdt
                have hdb := D_bd wt m (t * 134217728) la
                have hd2 := HS3.out t ht1 hle
                rw [hdt] at hdb hd2
                obtain ⟨hdb0, hdb1⟩ := hdb
                clear hdt
                go_wp2_with (go_at_call 10; refine (zzDist_n ao1 k ca1 la HN.out wt m _ _ ha6 hn HXB.out h1 h2 h3 h4 (by omega) (by omega) dt Hdt.out).mono ?_; rintro e w7 ⟨rfl, rfl⟩)
                · go_roundg (R + 1 - (t + 1)).toNat
                  case measure => omega
                  case rel => exact ⟨t + 1, dt, by omega, by omega, by omega, rfl, rfl, by omega, by omega, by omega, ha6, hB6⟩
                · go_roundg (R + 1 - (t + 1)).toNat
                  case measure => omega
                  case rel => exact ⟨t + 1, FF, by omega, by omega, by omega, rfl, rfl, by omega, by omega, by omega, ha6, hB6⟩
              · obtain rfl : t = R + 1 := by omega
                have em : (s * 134217728).tmod 134217728 = 0 := Int.mul_tmod_left _ _
                have eq : (s * 134217728).tdiv 134217728 = s := Int.mul_tdiv_cancel _ (by omega)
                go_wp2_with (go_at_call 10; refine (zzDist_n ao1 k ca1 la HN.out wt m _ _ ha6 hn HXB.out h1 h2 h3 h4 (by omega) (by omega) Do HDo.out).mono ?_; rintro e w7 ⟨rfl, rfl⟩)
                go_ret
                exact ⟨retB (by simp), hB6⟩

set_option maxHeartbeats 400000 in
theorem law_big (ao : Option Addr) (n ca : Nat) (full : Bool) (wt m : Int) (w : World) (h : ¬ n ≤ 131072) :
    Calls Try.prog 4 #[.slice ao n ca, .bool full, .int .u64 wt, .int .u64 m] w fun e w' => e = .returned (.bool true) ∧ Below w.heap.size w w' := by
  have h' : (131072 : Int) < (n : Int) := by omega
  go_enter Try.func4, Try.ntmps4
  go_wp2
  all_goals
    go_ret
    exact ⟨rfl, Below.refl _ _⟩

set_option maxHeartbeats 1000000 in
theorem law_out (ao : Option Addr) (n ca : Nat) (full : Bool) (wt m : Int) (w : World) (hn : n ≤ 131072) (h : wt < 1 ∨ (1 ≤ wt ∧ 65536 < wt) ∨ (1 ≤ wt ∧ wt ≤ 65536 ∧ m < 1) ∨ (1 ≤ wt ∧ wt ≤ 65536 ∧ 1 ≤ m ∧ 2147483646 < m)) :
    Calls Try.prog 4 #[.slice ao n ca, .bool full, .int .u64 wt, .int .u64 m] w fun e w' => e = .returned (.bool true) ∧ Below w.heap.size w w' := by
  rcases h with h | ⟨h1, h2⟩ | ⟨h1, h2, h3⟩ | ⟨h1, h2, h3, h4⟩
  all_goals
    go_enter Try.func4, Try.ntmps4
    go_wp2
    go_ret
    exact ⟨rfl, Below.refl _ _⟩

end Go.Proofs.Qxb6619060a
