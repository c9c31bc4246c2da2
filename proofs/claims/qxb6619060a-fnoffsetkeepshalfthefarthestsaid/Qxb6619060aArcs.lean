/-
  SEAT b6619060a: THE CONTRACTS OF arcs (some row of pairs of int64) AND splits (some number).
-/
import Derived.Test.Qxb6619060aDisc
import Derived.Deep.RegionHeld3
namespace Go.Proofs.Qxb6619060a
open Go.RowKit

theorem Try.info52 : (Try.prog.info? 52).map (fun i => (i.zero, i.size, i.bytes)) = some (some (.agg #[.int .i64 0, .int .i64 0]), 2, 16) := by kernel_rfl

/-- the value v owns n pairs of int64 -/
def OwnP (B : Nat) (v : Value) (n : Nat) (w : World) : Prop := ∃ xs, w.ownsRow B 52 2 v n xs ∧ AllI .i64 xs
theorem OwnP.blk {B : Nat} {v : Value} {n : Nat} {w : World} (h : OwnP B v n w) : ∀ q, v.ownBlock = some q → B ≤ q := by
  obtain ⟨xs, h, _⟩ := h
  intro q hq
  rcases h.2 with ⟨rfl, _⟩ | ⟨g, cap, cur, rfl, hg, _⟩
  · cases hq
  · simp [Value.ownBlock] at hq; omega
theorem OwnP.mono {B B' : Nat} {v : Value} {n : Nat} {w : World} (h : OwnP B v n w) (hB : B' ≤ B) : OwnP B' v n w := by
  obtain ⟨xs, ⟨h1, h2⟩, h3⟩ := h
  refine ⟨xs, ⟨h1, ?_⟩, h3⟩
  rcases h2 with h2 | ⟨g, cap, cur, e, hg, r⟩
  · exact .inl h2
  · exact .inr ⟨g, cap, cur, e, by omega, r⟩
theorem OwnP.below {B G : Nat} {v : Value} {n : Nat} {w w' : World} (h : OwnP B v n w) (hb : Below G w w') (hG : w.heap.size ≤ G) : OwnP B v n w' := by
  obtain ⟨xs, ⟨h1, h2⟩, h3⟩ := h
  refine ⟨xs, ⟨h1, ?_⟩, h3⟩
  rcases h2 with h2 | ⟨g, cap, cur, e, hg, hh, r⟩
  · exact .inl h2
  · exact .inr ⟨g, cap, cur, e, hg, by rw [hb.block g (by have := blk_lt hh; omega)]; exact hh, r⟩
theorem OwnP.drew {B : Nat} {v : Value} {n : Nat} {w : World} (h : OwnP B v n w) : OwnP B v n w.drew := h

theorem step_append_pair {ops : Array Oper} {o : Oper} {a : Act} {w : World} {c d : Int} {T : TypeId} {K : Act → World → Prop} {Q : Exit → Act → World → Prop} {E : Prop} (hgd : o.guard = none) (sl x : Operand)
    (ho : o.op = .call { callee := .builtin .append, args := #[sl, x], argTypes := #[44, 44] }) (B : Nat) (v : Value) (n : Nat) (hs : a.eval sl = v) (hown : OwnP B v n w)
    (hx : a.eval x = .slice (some ⟨w.heap.size, 0, none⟩) 1 1) (hb : n ≤ 1048576) (hB : B ≤ w.heap.size)
    (h : ∀ v' w', OwnP B v' (n + 1) w' → Below B w w' → K (a.put o.dst v') w') :
    if Region.wanted o (yielded ops a.tmps) = true then Oper.wp Try.prog o a (w.alloc (.cells #[.int .i64 c, .int .i64 d] T)) K Q else E := by
  have hw : Region.wanted o (yielded ops a.tmps) = true := by simp [Region.wanted, hgd]
  rw [if_pos hw]
  obtain ⟨i0, hi, hz0, hz1, hz2⟩ := info_parts Try.info52
  have hblk := hown.blk
  obtain ⟨xs, hown, hall⟩ := hown
  refine wp_append_own _ sl x 44 ho B 52 i0 (.agg #[.int .i64 0, .int .i64 0]) 2 16 Try.underlying44 hi hz0 hz1 hz2 rfl (by decide) v n _ hs (World.ownsRow.alloc hown _) ⟨w.heap.size, 0, none⟩ 1 1 [.int .i64 c, .int .i64 d] hx rfl ?_ ?_ (by unfold maxLen; omega) (by omega) (by simp; omega) ?_
  · intro j u hj
    match j, hj with
    | 0, hj => simp at hj; subst hj; simp [Addr.add]
    | 1, hj => simp at hj; subst hj; simp [Addr.add]
  · intro u hu; simp at hu; rcases hu with rfl | rfl <;> rfl
  · intro v' w' h1 h2 _
    refine h v' w' ⟨_, h1, hall.append (fun u hu => ?_)⟩ (((Below.refl B w).alloc hB _).grown h2 (by simp; omega) hblk)
    simp at hu
    rcases hu with rfl | rfl
    · exact ⟨c, rfl⟩
    · exact ⟨d, rfl⟩

set_option maxRecDepth 100000 in
set_option maxHeartbeats 2000000 in
theorem arcs_any (bl : Nat) (ao : Option Addr) (ca : Nat) (f : Bool) (la : List Int) (n : Nat) (wt m o : Int) (w : World) (HL : Hid (w.heap[bl]? = some (.cells #[.slice ao n ca, .bool f] 38 (0, 0)))) (ha : Lies w ao la) (HN : Hid (la.length = n)) (hn : n ≤ 131072)
    (hx : ∀ x ∈ la, 0 ≤ x ∧ x < 4294967296) (h1 : 1 ≤ m) (h2 : m ≤ 2147483646) (h3 : 1 ≤ wt) (h4 : wt ≤ 65536) (h5 : -4294967296 < o) (h6 : o < 4294967296) :
    Calls Try.prog 14 #[.pointer (some ⟨bl, 0, none⟩), .agg #[.int .u64 wt, .int .u64 m, .int .i64 o]] w fun e w' => ∃ v c, e = .returned v ∧ OwnP w.heap.size v c w' ∧ c ≤ 131072 ∧ Below w.heap.size w w' := by
  have hbl := blk_lt HL.out
  have l0 : w.cell? ⟨bl, 0, none⟩ = some (.slice ao n ca) := cell_of_row w _ 0 _ _ _ HL.out
  go_enter Try.func14, Try.ntmps14
  go_wp2
  go_loopw [5, 14] (fun v i wr => ∃ (k c : Nat), k ≤ n ∧ i = .int .i64 k ∧ OwnP (w.heap.size + 1) v c wr ∧ c ≤ k ∧ Below (w.heap.size + 1) (w.alloc (.cells #[.int .u64 wt, .int .u64 m, .int .i64 o] 42)) wr) (fun _ i _ => n - (intOf i).toNat)
  case atStart => exact ⟨0, 0, by omega, rfl, ⟨[], World.ownsRow_nil _ _ _ _, AllI.nil _⟩, by omega, Below.refl _ _⟩
  case round =>
    obtain ⟨k, c, hk, rfl, hO, hc, hB⟩ := hrel
    have hBw : Below w.heap.size w wr := ((Below.refl _ _).alloc (Nat.le_refl _) _).trans (hB.mono (by omega))
    have hsz := hB.size
    simp only [World.size_alloc] at hsz
    have HB : Hid (wr.heap[w.heap.size]? = some (.cells #[.int .u64 wt, .int .u64 m, .int .i64 o] 42 (0, 0))) := (hB.block _ (by omega)).trans (heap_alloc_new _ _)
    by_cases hlt : k < n
    · have c0 : wr.cell? ⟨w.heap.size, 0, none⟩ = some (.int .u64 wt) := cell_of_row wr _ 0 _ _ _ HB.out
      have c1 : wr.cell? ⟨w.heap.size, 1, none⟩ = some (.int .u64 m) := cell_of_row wr _ 1 _ _ _ HB.out
      have c2 : wr.cell? ⟨w.heap.size, 2, none⟩ = some (.int .i64 o) := cell_of_row wr _ 2 _ _ _ HB.out
      have l0r : wr.cell? ⟨bl, 0, none⟩ = some (.slice ao n ca) := by rw [hBw.cell hbl]; exact l0
      have haw := ha.below hBw
      obtain ⟨b, off, x, rfl, cx, hxx, hxm⟩ := haw.tick k (by have := HN.out; omega)
      obtain ⟨x0, x1⟩ := hx x hxm
      have hltI : (k : Int) < (n : Int) := by omega
      have hn0 : ((n : Int) == 0) = false := by rw [beq_eq_false_iff_ne]; omega
      by_cases hl1 : k + 1 < n
      · obtain ⟨b', off', y, e0, cy, hyy, hym⟩ := haw.tick (k + 1) (by have := HN.out; omega)
        simp only [Option.some.injEq, Addr.mk.injEq, and_true] at e0
        obtain ⟨rfl, rfl⟩ := e0
        have hmod : ((k : Int) + 1).tmod (n : Int) = (k : Int) + 1 := Int.tmod_eq_of_lt (by omega) (by omega)
        have hl1I : (k : Int) + 1 < (n : Int) := by omega
        clear hxx hxm hyy hym
        go_wp2
        go_quiet (fail)
        go_wp2
        go_quiet (fail)
        go_wp2
        · go_roundw
          case rel => exact ⟨k + 1, c, by omega, by go_num, by exact hO, by omega, below_dN hB _⟩
          case measure => simp [intOf]; omega
        · go_region_held3 (fun w' => w'.cell? ⟨w.heap.size, 0, none⟩ = some (.int .u64 wt) ∧ w'.cell? ⟨w.heap.size, 1, none⟩ = some (.int .u64 m) ∧ w'.cell? ⟨w.heap.size, 2, none⟩ = some (.int .i64 o)) (go_keep) (first
            | (go_at_call 18; refine (onCircle_any _ _ _ _ _ h1 h2 h3 h4 h5 h6 x0 x1).mono ?_; rintro e w1 ⟨rfl, hb1⟩; have d0 : w1.cell? ⟨w.heap.size, 0, none⟩ = some (.int .u64 wt) := (hb1.cell (p := ⟨w.heap.size, 0, none⟩) (by exact hsz)).trans c0; have d1 : w1.cell? ⟨w.heap.size, 1, none⟩ = some (.int .u64 m) := (hb1.cell (p := ⟨w.heap.size, 1, none⟩) (by exact hsz)).trans c1; have d2 : w1.cell? ⟨w.heap.size, 2, none⟩ = some (.int .i64 o) := (hb1.cell (p := ⟨w.heap.size, 2, none⟩) (by exact hsz)).trans c2; have hO1 := OwnP.below (by exact hO) hb1 (Nat.le_refl _))
            | (refine step_append_pair rfl (.tmp 55) (.tmp 69) rfl (w.heap.size + 1) _ c rfl hO1 rfl (by omega) (by have := hb1.size; exact Nat.le_trans hsz this) ?_; intro v' w3 hO3 hb3; have e0 := (hb3.cell (p := ⟨w.heap.size, 0, none⟩) (Nat.lt_succ_self _)).trans d0; have e1 := (hb3.cell (p := ⟨w.heap.size, 1, none⟩) (Nat.lt_succ_self _)).trans d1; have e2 := (hb3.cell (p := ⟨w.heap.size, 2, none⟩) (Nat.lt_succ_self _)).trans d2))
          go_wp2
          go_roundw
          case rel => exact ⟨k + 1, c + 1, by omega, by go_num, hO3, by omega, (Below.trans (by exact ⟨hB.os, hB.tape, hB.output, hB.size, hB.block⟩) (hb1.mono (by exact hsz))).trans hb3⟩
          case measure => simp [intOf]; omega
      · obtain ⟨b', off', y, e0, cy, hyy, hym⟩ := haw.tick 0 (by have := HN.out; omega)
        simp only [Option.some.injEq, Addr.mk.injEq, and_true] at e0
        obtain ⟨rfl, rfl⟩ := e0
        simp only [Nat.add_zero] at cy
        have hmod : ((k : Int) + 1).tmod (n : Int) = 0 := by rw [show (k : Int) + 1 = (n : Int) from by omega]; exact Int.tmod_self
        have hl1I : ¬ (k : Int) < (n : Int) - 1 := by omega
        have hn1 : (0 : Int) < (n : Int) := by omega
        clear hxx hxm hyy hym
        go_wp2
        go_quiet (fail)
        go_wp2
        go_quiet (fail)
        go_wp2
        · go_roundw
          case rel => exact ⟨k + 1, c, by omega, by go_num, by exact hO, by omega, below_dN hB _⟩
          case measure => simp [intOf]; omega
        · go_region_held3 (fun w' => w'.cell? ⟨w.heap.size, 0, none⟩ = some (.int .u64 wt) ∧ w'.cell? ⟨w.heap.size, 1, none⟩ = some (.int .u64 m) ∧ w'.cell? ⟨w.heap.size, 2, none⟩ = some (.int .i64 o)) (go_keep) (first
            | (go_at_call 18; refine (onCircle_any _ _ _ _ _ h1 h2 h3 h4 h5 h6 x0 x1).mono ?_; rintro e w1 ⟨rfl, hb1⟩; have d0 : w1.cell? ⟨w.heap.size, 0, none⟩ = some (.int .u64 wt) := (hb1.cell (p := ⟨w.heap.size, 0, none⟩) (by exact hsz)).trans c0; have d1 : w1.cell? ⟨w.heap.size, 1, none⟩ = some (.int .u64 m) := (hb1.cell (p := ⟨w.heap.size, 1, none⟩) (by exact hsz)).trans c1; have d2 : w1.cell? ⟨w.heap.size, 2, none⟩ = some (.int .i64 o) := (hb1.cell (p := ⟨w.heap.size, 2, none⟩) (by exact hsz)).trans c2; have hO1 := OwnP.below (by exact hO) hb1 (Nat.le_refl _))
            | (refine step_append_pair rfl (.tmp 55) (.tmp 69) rfl (w.heap.size + 1) _ c rfl hO1 rfl (by omega) (by have := hb1.size; exact Nat.le_trans hsz this) ?_; intro v' w3 hO3 hb3; have e0 := (hb3.cell (p := ⟨w.heap.size, 0, none⟩) (Nat.lt_succ_self _)).trans d0; have e1 := (hb3.cell (p := ⟨w.heap.size, 1, none⟩) (Nat.lt_succ_self _)).trans d1; have e2 := (hb3.cell (p := ⟨w.heap.size, 2, none⟩) (Nat.lt_succ_self _)).trans d2))
          go_wp2
          go_roundw
          case rel => exact ⟨k + 1, c + 1, by omega, by go_num, hO3, by omega, (Below.trans (by exact ⟨hB.os, hB.tape, hB.output, hB.size, hB.block⟩) (hb1.mono (by exact hsz))).trans hb3⟩
          case measure => simp [intOf]; omega
    · go_wp2
      go_ret
      first | exact ⟨_, c, rfl, hO.mono (by omega), by omega, hBw⟩ | exact ⟨_, rfl, c, hO.mono (by omega), by omega, hBw⟩

end Go.Proofs.Qxb6619060a
