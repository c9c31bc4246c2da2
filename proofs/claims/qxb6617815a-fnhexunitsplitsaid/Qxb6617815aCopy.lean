/-
  SEAT b6617815a: 'make' AND 'copy' OF BYTES: two laws for the walks; joinBytes.
-/
import Derived.Test.Qxb6617815aLeaves
import Derived.Laws.CopyOwn
import Derived.WalkSpells
import Derived.OpenShut
namespace Go.Proofs.Qxb6617815a
open Go.RowKit

theorem Lies.nil (w : World) (ao : Option Addr) : Lies w ao [] := by simp [Lies]

theorem Lies.below {w w' : World} {ao : Option Addr} {l : List Int} (h : Lies w ao l) (hb : Below w.heap.size w w') : Lies w' ao l := by
  refine ⟨h.1, fun j hj => ?_⟩
  obtain ⟨b, off, e, hc⟩ := h.2 j hj
  exact ⟨b, off, e, by rw [hb.cell (block_lt_of_cell hc)]; exact hc⟩

theorem row_of_made {w1 : World} {base g n cap : Nat} {xs : List Value} (h : w1.ownsRow base 5 1 (.slice (some ⟨g, 0, none⟩) n cap) n xs) :
    ∃ cur : List Value, w1.heap[g]? = some (.cells cur.toArray 5 (0, 0)) ∧ cur.length = cap := by
  obtain ⟨_, h | ⟨g', cap', cur, hv, _, hh, _, _, hs, _⟩⟩ := h
  · cases h.1
  · simp only [Value.slice.injEq, Option.some.injEq, Addr.mk.injEq, and_true, true_and] at hv
    obtain ⟨rfl, rfl⟩ := hv
    exact ⟨cur.toList, by simpa using hh, by simpa using hs⟩

theorem splice_all {α : Type} (L cs : List α) (h : L.length = cs.length) : splice L 0 cs = cs := by
  simp [splice, List.drop_eq_nil_of_le, h]
theorem splice_two {α : Type} (L xs ys : List α) (h : L.length = xs.length + ys.length) : splice (splice L 0 xs) xs.length ys = xs ++ ys := by
  simp [splice, List.drop_append, h]

theorem lies_of_row {w : World} {g : Nat} {l : List Int} (h : w.heap[g]? = some (.cells (l.map (Value.int .u8)).toArray 5 (0, 0))) (hb : ∀ c ∈ l, 0 ≤ c ∧ c ≤ 255) : Lies w (some ⟨g, 0, none⟩) l := by
  refine ⟨hb, fun j hj => ⟨g, 0, rfl, ?_⟩⟩
  rw [cell_of_row w g _ _ 5 (0, 0) h]
  simp [List.getD, hj]

/-- A GUARD for the walk: it fits where the next operation writes slot n. -/
theorem at_dst (n : Nat) {P : Program} {ops : Array Oper} {rest : List Oper} {op : Op} {ty : TypeId} {pos : String} {after : Array Edge} {a : Act} {w : World} {Q : Exit → Act → World → Prop}
    (h : wpList P ops Q (⟨some n, op, ty, pos, after, none⟩ :: rest) a w) : wpList P ops Q (⟨some n, op, ty, pos, after, none⟩ :: rest) a w := h

theorem Try.info5 : (Try.prog.info? 5).map (fun i => (i.zero, i.size, i.bytes)) = some (some (.int .u8 0), 1, 1) := by kernel_rfl
theorem Try.size5 : (Try.prog.info? 5).map (·.size) = some 1 := by kernel_rfl

theorem neq_nil (w : World) (a : Option Addr) (n c n' c' : Nat) : (binOp .neq 22 (.slice a n c) (.slice none n' c')).run Try.prog w = .ok (.bool a.isSome) w := by
  have := run_neq_slice_nil_any (P := Try.prog) w _ _ a n c n' c' Try.underlying22
  rw [this]; cases a <;> rfl

/-- 'make([]byte, n)': a new row at the heap's end. -/
theorem make_law {w : World} {ops : Array Oper} {rest : List Oper} {o : Oper} {a : Act} {Q : Exit → Act → World → Prop} (hgd : o.guard = none) (l c : Operand) (hop : o.op = Op.makeSlice 22 l c)
    (L : Int) (n : Nat) (hl : a.eval l = .int .i64 L) (hc : a.eval c = .int .i64 L) (hL : L = (n : Int)) (hn : n ≤ 2097152)
    (h : ∀ w1 cur, Hid (w1.heap[w.heap.size]? = some (.cells (cur : List Value).toArray 5 (0, 0)) ∧ cur.length = n) → Below w.heap.size w w1 → wpList Try.prog ops Q rest (a.put o.dst (.slice (some ⟨w.heap.size, 0, none⟩) n n)) w1) :
    wpList Try.prog ops Q (o :: rest) a w := by
  obtain ⟨i0, hi, hz0, hz1, hz2⟩ := info_parts Try.info5
  refine wpList_make_full w hgd l c 22 hop w.heap.size 5 i0 (.int .u8 0) 1 Try.underlying22 hi hz0 hz1 .i64 .i64 L L n hl hc hL hL (by rw [hz2]; omega) (by unfold maxLen; omega) (Nat.le_refl _) ?_
  intro w1 hown hgrow
  obtain ⟨cur, h1, h2⟩ := row_of_made hown
  exact h w1 cur ⟨h1, h2⟩ ((Below.refl _ _).grown hgrow (Nat.le_refl _) (fun _ h => by cases h))

/-- 'copy(dst, src)' of bytes, dst lying in the row g from 'off' on, with room for all of src. -/
theorem copy_law {w : World} {ops : Array Oper} {rest : List Oper} {o : Oper} {a : Act} {Q : Exit → Act → World → Prop} (hgd : o.guard = none) (d s : Operand)
    (ho : o.op = .call { callee := .builtin .copy, args := #[d, s], argTypes := #[22, 22] }) (dp sp : Option Addr) (dLen dCap sLen sCap : Nat) (hd : a.eval d = .slice dp dLen dCap) (hs : a.eval s = .slice sp sLen sCap)
    (l : List Int) (hl : sLen = l.length) (hle : l.length ≤ dLen) (g off : Nat) (cur : List Value) (hg : w.heap[g]? = some (.cells cur.toArray 5 (0, 0))) (hfit : off + l.length ≤ cur.length) (hdp : 0 < l.length → dp = some ⟨g, off, none⟩)
    (hc : Lies w sp l) (B : Nat) (w0 : World) (hb : Below B w0 w) (hBg : B ≤ g)
    (h : ∀ w', Hid (w'.heap[g]? = some (.cells (splice cur off (l.map (Value.int .u8))).toArray 5 (0, 0))) → Below B w0 w' → wpList Try.prog ops Q rest (a.put o.dst (goInt l.length)) w') :
    wpList Try.prog ops Q (o :: rest) a w := by
  refine wpList_copy_splice hgd d s 22 22 ho 5 Try.underlying22 Try.size5 dp sp dLen dCap sLen sCap hd hs g off cur 5 hg (l.map (Value.int .u8)) ?_ ?_ (by simpa using hfit) (ints_oneCell _ _) B w0 hb hBg (by simpa using h)
  · rw [List.length_map, hl]; exact (Nat.min_eq_left hle).symm
  · intro hp
    have hp' : 0 < l.length := by simpa using hp
    obtain ⟨b, off', e, _⟩ := hc.2 0 hp'
    refine ⟨hdp hp', ⟨b, off', none⟩, e, fun j v hv => ?_⟩
    have hj : j < l.length := by have := (List.getElem?_eq_some_iff.1 hv).1; simpa using this
    obtain ⟨b2, off2, e2, hcell⟩ := hc.2 j hj
    rw [e] at e2
    simp only [Option.some.injEq, Addr.mk.injEq, and_true] at e2
    obtain ⟨rfl, rfl⟩ := e2
    rw [show (⟨b, off', none⟩ : Addr).add j = ⟨b, off' + j, none⟩ from by simp [Addr.add], hcell, ← hv]
    simp [List.getD, hj]

/-- 'copy(dst, src)', dst a new row of just src's length. -/
theorem copy_all {w : World} {ops : Array Oper} {rest : List Oper} {o : Oper} {a : Act} {Q : Exit → Act → World → Prop} (hgd : o.guard = none) (d s : Operand)
    (ho : o.op = .call { callee := .builtin .copy, args := #[d, s], argTypes := #[22, 22] }) (g n sCap : Nat) (sp : Option Addr) (hd : a.eval d = .slice (some ⟨g, 0, none⟩) n n) (hs : a.eval s = .slice sp n sCap)
    (l : List Int) (hl : n = l.length) (cur : List Value) (hg : Hid (w.heap[g]? = some (.cells cur.toArray 5 (0, 0)) ∧ cur.length = n)) 
    (B : Nat) (w0 : World) (hB : B = w0.heap.size) (hc : Lies w0 sp l) (hb : Below B w0 w) (hBg : B ≤ g)
    (h : ∀ w', Lies w' (some ⟨g, 0, none⟩) l → Below B w0 w' → wpList Try.prog ops Q rest (a.put o.dst (goInt l.length)) w') :
    wpList Try.prog ops Q (o :: rest) a w := by
  subst hB
  refine copy_law hgd d s ho _ _ _ _ _ _ hd hs l hl (by omega) g 0 cur hg.out.1 (by have := hg.out.2; omega) (fun _ => rfl) (hc.below hb) _ w0 hb hBg ?_
  intro w' hg' hb'
  refine h w' (lies_of_row ?_ hc.1) hb'
  rw [hg'.out, splice_all _ _ (by rw [List.length_map, ← hl]; exact hg.out.2)]

/-- A slice of bytes that came in: what 'IsRow' of the shells tells of it. -/
theorem lies_of_cells {w : World} {x : Addr} {len cap : Nat} {zs : List Int} (hl : len ≤ cap) (hz : zs.length = cap)
    (hc : ∀ i, i < zs.length → w.cell? (x.add i) = some (.int .u8 (zs.getD i 0))) (hw : ∀ n ∈ zs, (Lit.int .u8 n).wf = true) : Lies w (some x) (zs.take len) ∧ (zs.take len).length = len := by
  refine ⟨⟨fun c h => bounds_u8 (hw c (List.mem_of_mem_take h)), fun j hj => ?_⟩, by simp; omega⟩
  have hj' : j < len ∧ j < zs.length := by rw [List.length_take] at hj; omega
  obtain ⟨b, off, spot⟩ := x
  have hcj := hc j hj'.2
  have hspot : spot = none := by simpa [Addr.add] using World.cell?_spot (hc 0 (by omega))
  subst hspot
  refine ⟨b, off, rfl, ?_⟩
  rw [show (⟨b, off + j, none⟩ : Addr) = (⟨b, off, none⟩ : Addr).add j from by simp [Addr.add], hcj]
  simp [List.getD, hj'.1]

end Go.Proofs.Qxb6617815a
