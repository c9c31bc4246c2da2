/-
  SEAT b6619060a: THE CONTRACT OF turns: some row of uint64.
-/
import Derived.Test.Qxb6619060aTurn
import Derived.Deep.LoopGhost
namespace Go.Proofs.Qxb6619060a
open Go.RowKit

theorem Try.info23 : (Try.prog.info? 23).map (fun i => (i.zero, i.size, i.bytes)) = some (some (.int .u64 0), 1, 8) := by kernel_rfl

/-- every cell is a number of kind k -/
def AllI (k : IntKind) (cs : List Value) : Prop := ∀ u ∈ cs, ∃ z : Int, u = .int k z
theorem AllI.nil (k : IntKind) : AllI k [] := fun _ h => by cases h
theorem AllI.append {k : IntKind} {a b : List Value} (h1 : AllI k a) (h2 : AllI k b) : AllI k (a ++ b) := fun u hu => (List.mem_append.1 hu).elim (h1 u) (h2 u)
theorem AllI.set {k : IntKind} {a : List Value} (h : AllI k a) (i : Nat) (z : Int) : AllI k (a.set i (.int k z)) := fun u hu => by
  rcases List.mem_or_eq_of_mem_set hu with h' | h'
  · exact h u h'
  · exact ⟨z, h'⟩
theorem AllI.get {k : IntKind} {a : List Value} (h : AllI k a) (i : Nat) (hi : i < a.length) : ∃ z : Int, a[i]? = some (.int k z) := by
  obtain ⟨z, e⟩ := h a[i] (List.getElem_mem hi)
  exact ⟨z, by rw [List.getElem?_eq_getElem hi, e]⟩

/-- the block g is a row of n numbers of kind k, elements of type T -/
def Row (k : IntKind) (T : TypeId) (w : World) (g n : Nat) : Prop := ∃ cs : List Value, w.heap[g]? = some (.cells cs.toArray T (0, 0)) ∧ cs.length = n ∧ AllI k cs

theorem Row.below {k : IntKind} {T : TypeId} {w w' : World} {g n B : Nat} (h : Row k T w g n) (hb : Below B w w') (hg : g < B) : Row k T w' g n := by
  obtain ⟨cs, h1, h2, h3⟩ := h
  exact ⟨cs, by rw [hb.block g hg]; exact h1, h2, h3⟩
theorem Row.lt {k : IntKind} {T : TypeId} {w : World} {g n : Nat} (h : Row k T w g n) : g < w.heap.size := by
  obtain ⟨cs, h1, _⟩ := h; exact blk_lt h1
theorem Row.cell {k : IntKind} {T : TypeId} {w : World} {g n : Nat} (h : Row k T w g n) (i : Nat) (hi : i < n) : ∃ z : Int, w.cell? ⟨g, i, none⟩ = some (.int k z) := by
  obtain ⟨cs, h1, h2, h3⟩ := h
  obtain ⟨z, e⟩ := h3.get i (by omega)
  exact ⟨z, by rw [cell_of_row w g i _ T _ h1]; simpa using e⟩
theorem Row.free {k : IntKind} {T : TypeId} {w : World} {g n : Nat} (h : Row k T w g n) (i : Nat) : w.frozen? ⟨g, i, none⟩ = false := by
  obtain ⟨cs, h1, _⟩ := h; exact frozen_of_row w g i _ T h1
theorem Row.set {k : IntKind} {T : TypeId} {w : World} {g n : Nat} (h : Row k T w g n) (i : Nat) (z : Int) : Row k T (w.setCell ⟨g, i, none⟩ (.int k z)) g n := by
  obtain ⟨cs, h1, h2, h3⟩ := h
  refine ⟨cs.set i (.int k z), ?_, by simpa using h2, h3.set i z⟩
  rw [heap_setCell_same w g i _ T _ h1]
  simp

theorem made_all (z : Int) (k : IntKind) (n : Nat) : AllI k (madeCells (Value.int k z).cells n).toList := by
  intro u hu
  have hc : (Value.int k z).cells = #[.int k z] := rfl
  rw [hc] at hu
  simp [madeCells] at hu
  obtain ⟨a, ha, rfl⟩ := hu
  refine ⟨z, ?_⟩
  simp [Nat.mod_one]

theorem row_made {k : IntKind} {T : TypeId} {w1 : World} {base g n : Nat} {z : Int} (h : w1.ownsRow base T 1 (.slice (some ⟨g, 0, none⟩) n n) n (madeCells (Value.int k z).cells (n * 1)).toList) : Row k T w1 g n := by
  obtain ⟨_, h | ⟨g', cap', cur, hv, _, hh, _, _, hs, ht⟩⟩ := h
  · cases h.1
  · simp only [Value.slice.injEq, Option.some.injEq, Addr.mk.injEq, and_true, true_and] at hv
    obtain ⟨rfl, rfl⟩ := hv
    refine ⟨cur.toList, by simpa using hh, by simpa using hs, ?_⟩
    have : cur.toList = cur.toList.take (n * 1) := (List.take_of_length_le (by simp; omega)).symm
    rw [this, ht]
    exact made_all z k _

/-- the value v owns n numbers of kind k -/
def Own (k : IntKind) (T : TypeId) (B : Nat) (v : Value) (n : Nat) (w : World) : Prop := ∃ xs, w.ownsRow B T 1 v n xs ∧ AllI k xs
theorem Own.blk {k : IntKind} {T : TypeId} {B : Nat} {v : Value} {n : Nat} {w : World} (h : Own k T B v n w) : ∀ q, v.ownBlock = some q → B ≤ q := by
  obtain ⟨xs, h, _⟩ := h
  intro q hq
  rcases h.2 with ⟨rfl, _⟩ | ⟨g, cap, cur, rfl, hg, _⟩
  · cases hq
  · simp [Value.ownBlock] at hq; omega

theorem Own.mono {k : IntKind} {T : TypeId} {B B' : Nat} {v : Value} {n : Nat} {w : World} (h : Own k T B v n w) (hB : B' ≤ B) : Own k T B' v n w := by
  obtain ⟨xs, ⟨h1, h2⟩, h3⟩ := h
  refine ⟨xs, ⟨h1, ?_⟩, h3⟩
  rcases h2 with h2 | ⟨g, cap, cur, e, hg, r⟩
  · exact .inl h2
  · exact .inr ⟨g, cap, cur, e, by omega, r⟩

/-- 'append(v, x)', v the call's own row of uint64. -/
theorem append_u64 {w : World} {c : Int} {T : TypeId} {ops : Array Oper} {rest : List Oper} {o : Oper} {a : Act} {Q : Exit → Act → World → Prop} (hgd : o.guard = none) (sl x : Operand)
    (ho : o.op = .call { callee := .builtin .append, args := #[sl, x], argTypes := #[28, 28] }) (B : Nat) (v : Value) (n : Nat) (hs : a.eval sl = v) (hown : Own .u64 23 B v n w)
    (hx : a.eval x = .slice (some ⟨w.heap.size, 0, none⟩) 1 1) (hb : n ≤ 1099511627776) (hB : B ≤ w.heap.size)
    (h : ∀ v' w', Own .u64 23 B v' (n + 1) w' → Below B w w' → wpList Try.prog ops Q rest (a.put o.dst v') w') : wpList Try.prog ops Q (o :: rest) a (w.alloc (.cells #[.int .u64 c] T)) := by
  obtain ⟨i0, hi, hz0, hz1, hz2⟩ := info_parts Try.info23
  have hblk := hown.blk
  obtain ⟨xs, hown, hall⟩ := hown
  refine wpList_append_own _ hgd sl x 28 ho B 23 i0 (.int .u64 0) 1 8 Try.underlying28 hi hz0 hz1 hz2 rfl (by decide) v n _ hs (World.ownsRow.alloc hown _) ⟨w.heap.size, 0, none⟩ 1 1 [.int .u64 c] hx rfl ?_ ?_ (by unfold maxLen; omega) (by omega) (by simp; omega) ?_
  · intro j u hj
    match j, hj with
    | 0, hj => simp at hj; subst hj; simp [Addr.add]
  · intro u hu; simp at hu; subst hu; rfl
  · intro v' w' h1 h2 _
    exact h v' w' ⟨_, h1, hall.append (fun u hu => ⟨c, by simpa using hu⟩)⟩ (((Below.refl B w).alloc hB _).grown h2 (by simp; omega) hblk)

set_option maxRecDepth 100000 in
set_option maxHeartbeats 2000000 in
theorem turns_any (wt m o : Int) (w : World) (h1 : 1 ≤ m) (h2 : m ≤ 262144) (h3 : 1 ≤ wt) (h4 : wt ≤ 65536) (h5 : wt * m ≤ 262144) :
    Calls Try.prog 15 #[.agg #[.int .u64 wt, .int .u64 m, .int .i64 o]] w fun e w' => ∃ v n, e = .returned v ∧ Own .u64 23 w.heap.size v n w' ∧ n ≤ 1099511627776 ∧ Below w.heap.size w w' := by
  obtain ⟨M, rfl⟩ := Int.eq_ofNat_of_zero_le (show 0 ≤ m by omega)
  obtain ⟨i0, hi, hz0, hz1, hz2⟩ := info_parts Try.info23
  have b0 : 0 ≤ wt * (M : Int) := Int.mul_nonneg (by omega) (by omega)
  go_enter Try.func15, Try.ntmps15
  go_wp2_with (first
    | (at_make; refine wpList_make_full _ rfl _ _ 28 rfl w.heap.size 23 i0 (.int .u64 0) 1 Try.underlying28 hi hz0 hz1 _ _ _ _ M rfl rfl rfl rfl (by rw [hz2]; omega) (by unfold maxLen; omega) (by simp) ?_; intro w1 hown hgrow))
  have hrow := row_made hown
  have hb1 : Below (w.heap.size + 1) (w.alloc (.cells #[.int .u64 wt, .int .u64 M, .int .i64 o] 42)) w1 := (Below.refl _ _).grown hgrow (by simp) (fun _ h => by cases h)
  have HH1 : Hid (w1.heap[w.heap.size]? = some (.cells #[.int .u64 wt, .int .u64 M, .int .i64 o] 42 (0, 0))) := (hb1.block _ (by omega)).trans (heap_alloc_new _ _)
  have hB1 : Below w.heap.size w w1 := ((Below.refl _ _).alloc (Nat.le_refl _) _).trans (hb1.mono (by omega))
  simp only [World.size_alloc] at hrow
  clear hown hgrow hb1
  go_loopw [15] (fun i wr => ∃ k : Nat, k ≤ M ∧ i = .int .i64 k ∧ Row .u64 23 wr (w.heap.size + 1) M ∧ Below w.heap.size w wr ∧ Hid (wr.heap[w.heap.size]? = some (.cells #[.int .u64 wt, .int .u64 M, .int .i64 o] 42 (0, 0)))) (fun i _ => M - (intOf i).toNat)
  case atStart => exact ⟨0, Nat.zero_le _, rfl, hrow, hB1, HH1⟩
  case round =>
    clear hrow hB1 HH1
    obtain ⟨k, hk, rfl, hrow, hB, HH⟩ := hrel
    have hlB := blk_lt HH.out
    have hlS := hrow.lt
    by_cases hlt : k < M
    · have c0 : wr.cell? ⟨w.heap.size, 0, none⟩ = some (.int .u64 wt) := cell_of_row wr _ 0 _ _ _ HH.out
      have c1 : wr.cell? ⟨w.heap.size, 1, none⟩ = some (.int .u64 M) := cell_of_row wr _ 1 _ _ _ HH.out
      have c2 : wr.cell? ⟨w.heap.size, 2, none⟩ = some (.int .i64 o) := cell_of_row wr _ 2 _ _ _ HH.out
      have hltI : (k : Int) < (M : Int) := by omega
      go_wp2_with (go_at_call 21; refine (place_any _ _ _ _ _ h1 (by omega)).mono ?_; rintro e w2 ⟨r, rfl, hb2⟩)
      have hb2' := hb2
      simp only [World.size_alloc] at hb2'
      have hh2 : Hid (w2.heap[wr.heap.size]? = some (.cells #[.int .u64 wt, .int .u64 0, .int .u64 0, .int .u64 0] 54 (0, 0))) := (hb2'.block _ (by omega)).trans (heap_alloc_new _ _)
      have hW2 : Below wr.heap.size wr w2 := ((Below.refl _ _).alloc (Nat.le_refl _) _).trans (hb2'.mono (by omega))
      clear hb2 hb2'
      refine (placeAt_any wr.heap.size wt 0 0 0 _ _ hh2.out h3).mono ?_
      rintro e w3 ⟨rfl, ⟨a', b', c', hh3⟩, hb3⟩
      have hW3 : Below wr.heap.size wr w3 := hW2.trans hb3
      have d1 : w3.cell? ⟨wr.heap.size, 1, none⟩ = some (.int .u64 a') := cell_of_row w3 _ 1 _ _ _ hh3
      have hrow3 := hrow.below hW3 hlS
      obtain ⟨z, d2⟩ := hrow3.cell k (by omega)
      have d3 := hrow3.free k
      have HH3 : Hid (w3.heap[w.heap.size]? = some (.cells #[.int .u64 wt, .int .u64 M, .int .i64 o] 42 (0, 0))) := (hW3.block _ hlB).trans HH.out
      have hB3 : Below w.heap.size w w3 := hB.trans (hW3.mono hB.size)
      clear hh3 hb3 hW2 hh2
      go_wp2
      have HH4 : Hid ((w3.setCell ⟨w.heap.size + 1, k, none⟩ (.int .u64 a')).heap[w.heap.size]? = some (.cells #[.int .u64 wt, .int .u64 M, .int .i64 o] 42 (0, 0))) := (heap_setCell_other _ _ _ _ (by simp)).trans HH3.out
      have hrow4 := hrow3.set k a'
      have hB4 := hB3.setCell (p := ⟨w.heap.size + 1, k, none⟩) (by simp) (.int .u64 a')
      go_roundw
      case rel => exact ⟨k + 1, by omega, by go_num, hrow4, hB4, HH4⟩
      case measure => simp [intOf]; omega
    · have c0 : wr.cell? ⟨w.heap.size, 0, none⟩ = some (.int .u64 wt) := cell_of_row wr _ 0 _ _ _ HH.out
      have c1 : wr.cell? ⟨w.heap.size, 1, none⟩ = some (.int .u64 M) := cell_of_row wr _ 1 _ _ _ HH.out
      obtain ⟨X, hX⟩ : ∃ X : Nat, wt * (M : Int) = (X : Int) := ⟨(wt * (M : Int)).toNat, by omega⟩
      have hXle : X ≤ 262144 := by omega
      go_wp2_with (first
        | (at_make; refine wpList_make_own _ rfl _ _ 28 rfl wr.heap.size 23 i0 (.int .u64 0) 1 Try.underlying28 hi hz0 hz1 _ _ _ X rfl rfl (by first | rfl | omega) (by rw [hz2]; omega) (by unfold maxLen; omega) (Nat.le_refl _) ?_; intro w2 hown hgrow))
      have hb2 : Below wr.heap.size wr w2 := (Below.refl _ _).grown hgrow (Nat.le_refl _) (fun _ h => by cases h)
      have hB2 : Below w.heap.size w w2 := hB.trans (hb2.mono hB.size)
      have hrow2 := hrow.below hb2 hlS
      have HH2 : Hid (w2.heap[w.heap.size]? = some (.cells #[.int .u64 wt, .int .u64 M, .int .i64 o] 42 (0, 0))) := (hb2.block _ hlB).trans HH.out
      have hO2 : Own .u64 23 wr.heap.size (.slice (some ⟨wr.heap.size, 0, none⟩) 0 X) 0 w2 := ⟨[], hown, AllI.nil _⟩
      have hsz := hb2.size
      have hBle := hB.size
      clear hown hgrow hb2 hrow HH c0 c1 hB
      obtain ⟨G, hG⟩ : ∃ G, wr.heap.size = G := ⟨_, rfl⟩
      rw [hG] at hO2 hsz hBle hlB hlS ⊢
      clear hG
      have hw0 : (wt == 0) = false := by rw [beq_eq_false_iff_ne]; omega
      go_loopw [6, 7] (fun v n wq => ∃ (N : Int) (c : Nat), 1 ≤ N ∧ N ≤ wt + 1 ∧ n = .int .u64 N ∧ Own .u64 23 G v c wq ∧ (c : Int) ≤ (N - 1) * 262144 ∧ Below G w2 wq) (fun _ n _ => (wt + 1 - intOf n).toNat)
      case atStart => exact ⟨1, 0, by omega, by omega, rfl, hO2, by omega, Below.refl _ _⟩
      case round =>
        obtain ⟨N, c, hN1, hN2, rfl, hO, hc, hb⟩ := hrel
        clear hO2
        have hrow3 := hrow2.below hb hlS
        have HH3 : Hid _ := (hb.block _ hlB).trans HH2.out
        have c0 : wr.cell? ⟨w.heap.size, 0, none⟩ = some (.int .u64 wt) := cell_of_row wr _ 0 _ _ _ HH3.out
        by_cases hle : N ≤ wt
        · go_wp2
          go_loopw [6, 46] (fun v i wq => ∃ (j c : Nat), j ≤ M ∧ i = .int .i64 j ∧ Own .u64 23 G v c wq ∧ (c : Int) ≤ (N - 1) * 262144 + j ∧ Below G w2 wq) (fun _ i _ => M - (intOf i).toNat)
          case atStart => exact ⟨0, c, by omega, rfl, hO, by omega, hb⟩
          case round =>
            clear hO hc hb hrow3 HH3 c0
            obtain ⟨j, c, hj, rfl, hO, hc, hb⟩ := hrel
            have hrow3 := hrow2.below hb hlS
            have HH3 : Hid _ := (hb.block _ hlB).trans HH2.out
            have c0 : wr.cell? ⟨w.heap.size, 0, none⟩ = some (.int .u64 wt) := cell_of_row wr _ 0 _ _ _ HH3.out
            have hbs := hb.size
            by_cases hlt : j < M
            · obtain ⟨z, cz⟩ := hrow3.cell j hlt
              have hltI : (j : Int) < (M : Int) := by omega
              clear hrow3 HH3
              go_wp2_with (first
                | (at_builtin; refine append_u64 rfl (.tmp 50) (.tmp 58) rfl G _ c rfl hO rfl (by omega) (by omega) ?_; intro v' w3 hO3 hb3))
              go_roundw
              case rel => exact ⟨j + 1, c + 1, by omega, by go_num, hO3, by omega, hb.trans hb3⟩
              case measure => simp [intOf]; omega
            · clear hrow3 HH3
              go_wp2
              go_roundw
              case rel => exact ⟨N + 1, c, by omega, by omega, rfl, hO, by omega, hb⟩
              case measure => simp [intOf]; omega
        · clear hrow3 HH3
          go_wp2
          go_ret
          first | exact ⟨_, c, rfl, hO.mono hBle, by omega, hB2.trans (hb.mono hBle)⟩ | exact ⟨_, rfl, c, hO.mono hBle, by omega, hB2.trans (hb.mono hBle)⟩

end Go.Proofs.Qxb6619060a
