/-
  SEAT b6619060a: the list of offsets that are tried; own rows of placings.
-/
import Derived.Test.Qxb6619060aTurns
namespace Go.Proofs.Qxb6619060a
open Go.RowKit

/-- after t steps: all multiples of a 32nd of a spacing less than t away, and no others -/
def Cov (os : List Int) (t : Nat) : Prop :=
  (∀ o ∈ os, ∃ s : Int, o = s * 134217728 ∧ -(t : Int) < s ∧ s < t) ∧ (∀ s : Int, -(t : Int) < s → s < t → s * 134217728 ∈ os) ∧ os.length ≤ 2 * t
theorem Cov.zero : Cov [] 0 := ⟨fun _ h => (by cases h), fun s h1 h2 => by omega, by simp⟩
theorem Cov.one : Cov [0] 1 := by
  refine ⟨fun o h => ⟨0, by simpa using h, by omega, by omega⟩, fun s h1 h2 => ?_, by simp⟩
  have : s = 0 := by omega
  subst this; simp
theorem Cov.step {os : List Int} {t : Nat} (h : Cov os t) (ht : 1 ≤ t) : Cov (os ++ [-((t : Int) * 134217728)] ++ [(t : Int) * 134217728]) (t + 1) := by
  obtain ⟨h1, h2, h3⟩ := h
  refine ⟨fun o ho => ?_, fun s a b => ?_, by simp; omega⟩
  · simp only [List.mem_append, List.mem_singleton] at ho
    rcases ho with (ho | ho) | ho
    · obtain ⟨s, e, a, b⟩ := h1 o ho
      exact ⟨s, e, by omega, by omega⟩
    · exact ⟨-(t : Int), by omega, by omega, by omega⟩
    · exact ⟨(t : Int), by omega, by omega, by omega⟩
  · simp only [List.mem_append, List.mem_singleton]
    by_cases c1 : s = t
    · right; rw [c1]
    · by_cases c2 : s = -(t : Int)
      · left; right; rw [c2]; omega
      · left; left; exact h2 s (by omega) (by omega)

/-- the cells of a row of placings -/
def flat (wt m : Int) (os : List Int) : List Value := os.flatMap fun o => [.int .u64 wt, .int .u64 m, .int .i64 o]
theorem flat_append (wt m : Int) (a b : List Int) : flat wt m (a ++ b) = flat wt m a ++ flat wt m b := by simp [flat]
theorem flat_length (wt m : Int) (os : List Int) : (flat wt m os).length = os.length * 3 := by
  induction os with
  | nil => rfl
  | cons o os ih => simp [flat] at *; omega
theorem flat_get (wt m : Int) (os : List Int) : ∀ j, j < os.length → (flat wt m os)[j * 3]? = some (.int .u64 wt) ∧ (flat wt m os)[j * 3 + 1]? = some (.int .u64 m) ∧ (flat wt m os)[j * 3 + 2]? = some (.int .i64 (os.getD j 0)) := by
  induction os with
  | nil => intro j h; simp at h
  | cons o os ih =>
    intro j h
    cases j with
    | zero => simp [flat]
    | succ j =>
      have := ih j (by simpa using h)
      have e : flat wt m (o :: os) = [.int .u64 wt, .int .u64 m, .int .i64 o] ++ flat wt m os := rfl
      rw [e, show (j + 1) * 3 = j * 3 + 3 from by omega]
      simpa using this

theorem Try.info42 : (Try.prog.info? 42).map (fun i => (i.zero, i.size, i.bytes)) = some (some (.agg #[.int .u64 0, .int .u64 0, .int .i64 0]), 3, 24) := by kernel_rfl
theorem Try.info2 : (Try.prog.info? 2).map (fun i => (i.zero, i.size, i.bytes)) = some (some (.int .i64 0), 1, 8) := by kernel_rfl

/-- the value v owns the placings at the offsets os -/
def OwnT (wt m : Int) (B : Nat) (v : Value) (os : List Int) (w : World) : Prop := w.ownsRow B 42 3 v os.length (flat wt m os)
theorem OwnT.blk {wt m : Int} {B : Nat} {v : Value} {os : List Int} {w : World} (h : OwnT wt m B v os w) : ∀ q, v.ownBlock = some q → B ≤ q := by
  intro q hq
  rcases h.2 with ⟨rfl, _⟩ | ⟨g, cap, cur, rfl, hg, _⟩
  · cases hq
  · simp [Value.ownBlock] at hq; omega

/-- 'append(tried, placing{w, m, o})' -/
theorem append_pl {wt m c : Int} {T : TypeId} {w : World} {ops : Array Oper} {rest : List Oper} {o : Oper} {a : Act} {Q : Exit → Act → World → Prop} (hgd : o.guard = none) (sl x : Operand)
    (ho : o.op = .call { callee := .builtin .append, args := #[sl, x], argTypes := #[40, 40] }) (B : Nat) (v : Value) (os : List Int) (hs : a.eval sl = v) (hown : OwnT wt m B v os w)
    (hx : a.eval x = .slice (some ⟨w.heap.size, 0, none⟩) 1 1) (hb : os.length ≤ 1048576) (hB : B ≤ w.heap.size)
    (h : ∀ v' w', OwnT wt m B v' (os ++ [c]) w' → Below B w w' → wpList Try.prog ops Q rest (a.put o.dst v') w') :
    wpList Try.prog ops Q (o :: rest) a (w.alloc (.cells #[.int .u64 wt, .int .u64 m, .int .i64 c] T)) := by
  obtain ⟨i0, hi, hz0, hz1, hz2⟩ := info_parts Try.info42
  have hblk := hown.blk
  refine wpList_append_own _ hgd sl x 40 ho B 42 i0 (.agg #[.int .u64 0, .int .u64 0, .int .i64 0]) 3 24 Try.underlying40 hi hz0 hz1 hz2 rfl (by decide) v os.length _ hs (World.ownsRow.alloc hown _) ⟨w.heap.size, 0, none⟩ 1 1 [.int .u64 wt, .int .u64 m, .int .i64 c] hx rfl ?_ ?_ (by unfold maxLen; omega) (by omega) (by simp; omega) ?_
  · intro j u hj
    match j, hj with
    | 0, hj => simp at hj; subst hj; simp [Addr.add]
    | 1, hj => simp at hj; subst hj; simp [Addr.add]
    | 2, hj => simp at hj; subst hj; simp [Addr.add]
  · intro u hu; simp at hu; rcases hu with rfl | rfl | rfl <;> rfl
  · intro v' w' h1 h2 _
    refine h v' w' ?_ (((Below.refl B w).alloc hB _).grown h2 (by simp; omega) hblk)
    show w'.ownsRow B 42 3 v' (os ++ [c]).length (flat wt m (os ++ [c]))
    rw [List.length_append, flat_append]
    exact h1

/-- n placings lie at the head of block g -/
def LiesT (wt m : Int) (w : World) (g : Nat) (os : List Int) : Prop :=
  ∀ j, j < os.length → w.cell? ⟨g, j * 3, none⟩ = some (.int .u64 wt) ∧ w.cell? ⟨g, j * 3 + 1, none⟩ = some (.int .u64 m) ∧ w.cell? ⟨g, j * 3 + 2, none⟩ = some (.int .i64 (os.getD j 0))
theorem LiesT.below {wt m : Int} {w w' : World} {g G : Nat} {os : List Int} (h : LiesT wt m w g os) (hb : Below G w w') (hg : g < G) : LiesT wt m w' g os := by
  intro j hj
  obtain ⟨h1, h2, h3⟩ := h j hj
  exact ⟨by rw [hb.cell hg]; exact h1, by rw [hb.cell hg]; exact h2, by rw [hb.cell hg]; exact h3⟩
theorem OwnT.lies {wt m : Int} {B : Nat} {v : Value} {os : List Int} {w : World} (h : OwnT wt m B v os w) (hne : 0 < os.length) :
    ∃ g cap, v = .slice (some ⟨g, 0, none⟩) os.length cap ∧ os.length ≤ cap ∧ B ≤ g ∧ g < w.heap.size ∧ LiesT wt m w g os := by
  obtain ⟨hl, h⟩ := h
  rcases h with ⟨rfl, h0⟩ | ⟨g, cap, cur, rfl, hg, hh, hle, _, hcs, htk⟩
  · omega
  · refine ⟨g, cap, rfl, hle, hg, blk_lt hh, fun j hj => ?_⟩
    obtain ⟨h1, h2, h3⟩ := flat_get wt m os j hj
    have key : ∀ i u, i < os.length * 3 → (flat wt m os)[i]? = some u → w.cell? ⟨g, i, none⟩ = some u := by
      intro i u hi e
      rw [cell_of_row w g i _ 42 _ hh]
      rw [← htk, List.getElem?_take_of_lt hi] at e
      simpa using e
    exact ⟨key _ _ (by omega) h1, key _ _ (by omega) h2, key _ _ (by omega) h3⟩

theorem Own.lies {B : Nat} {v : Value} {n : Nat} {w : World} (h : Own .u64 23 B v n w) : ∃ ao cap l, v = .slice ao (List.length l) cap ∧ l.length = n ∧ l.length ≤ cap ∧ cap ≤ 9223372036854775807 ∧ Lies w ao l := by
  obtain ⟨xs, ⟨hl, h⟩, hall⟩ := h
  rcases h with ⟨rfl, rfl⟩ | ⟨g, cap, cur, rfl, _, hh, hle, hm, hcs, htk⟩
  · exact ⟨none, 0, [], rfl, rfl, Nat.le_refl _, by omega, Lies.nil _ _⟩
  · have hl' : (xs.map intOf).length = n := by simp; omega
    refine ⟨_, cap, xs.map intOf, by rw [hl'], hl', by omega, hm, fun j hj => ⟨g, 0, rfl, ?_⟩⟩
    have hj' : j < xs.length := by simpa using hj
    obtain ⟨z, e⟩ := hall.get j hj'
    rw [Nat.zero_add, cell_of_row w g j _ 23 _ hh]
    have e2 : (xs.map intOf).getD j 0 = z := by simp [List.getD, e, intOf]
    rw [e2]
    rw [← htk, List.getElem?_take_of_lt (by omega)] at e
    simpa using e

/-- the row gd holds N numbers, of which the first k are f's -/
def DRow (w : World) (gd N k : Nat) (f : Nat → Int) : Prop :=
  ∃ cs : List Value, w.heap[gd]? = some (.cells cs.toArray 2 (0, 0)) ∧ cs.length = N ∧ AllI .i64 cs ∧ ∀ j, j < k → cs[j]? = some (.int .i64 (f j))
theorem DRow.start {w : World} {gd N : Nat} (h : Row .i64 2 w gd N) (f : Nat → Int) : DRow w gd N 0 f := by
  obtain ⟨cs, h1, h2, h3⟩ := h
  exact ⟨cs, h1, h2, h3, fun j hj => by omega⟩
theorem DRow.lt {w : World} {gd N k : Nat} {f : Nat → Int} (h : DRow w gd N k f) : gd < w.heap.size := by
  obtain ⟨cs, h1, _⟩ := h; exact blk_lt h1
theorem DRow.below {w w' : World} {gd N k G : Nat} {f : Nat → Int} (h : DRow w gd N k f) (hb : Below G w w') (hg : gd < G) : DRow w' gd N k f := by
  obtain ⟨cs, h1, h2⟩ := h
  exact ⟨cs, by rw [hb.block gd hg]; exact h1, h2⟩
theorem DRow.cellAt {w : World} {gd N k : Nat} {f : Nat → Int} (h : DRow w gd N k f) (i : Nat) (hi : i < N) : ∃ z : Int, w.cell? ⟨gd, i, none⟩ = some (.int .i64 z) := by
  obtain ⟨cs, h1, h2, h3, _⟩ := h
  obtain ⟨z, e⟩ := h3.get i (by omega)
  exact ⟨z, by rw [cell_of_row w gd i _ 2 _ h1]; simpa using e⟩
theorem DRow.read {w : World} {gd N k : Nat} {f : Nat → Int} (h : DRow w gd N k f) (i : Nat) (hi : i < k) : w.cell? ⟨gd, i, none⟩ = some (.int .i64 (f i)) := by
  obtain ⟨cs, h1, h2, h3, h4⟩ := h
  rw [cell_of_row w gd i _ 2 _ h1]
  simpa using h4 i hi
theorem DRow.free {w : World} {gd N k : Nat} {f : Nat → Int} (h : DRow w gd N k f) (i : Nat) : w.frozen? ⟨gd, i, none⟩ = false := by
  obtain ⟨cs, h1, _⟩ := h; exact frozen_of_row w gd i _ 2 h1
theorem DRow.set {w : World} {gd N k : Nat} {f : Nat → Int} (h : DRow w gd N k f) (hk : k < N) : DRow (w.setCell ⟨gd, k, none⟩ (.int .i64 (f k))) gd N (k + 1) f := by
  obtain ⟨cs, h1, h2, h3, h4⟩ := h
  refine ⟨cs.set k (.int .i64 (f k)), ?_, by simpa using h2, h3.set k _, fun j hj => ?_⟩
  · rw [heap_setCell_same w gd k _ 2 _ h1]; simp
  · by_cases e : j = k
    · subst e; rw [List.getElem?_set_self (by omega)]
    · rw [List.getElem?_set_ne (by omega)]; exact h4 j (by omega)

/-- F is the greatest of f's first k numbers, and of 0 -/
def MaxF (F : Int) (f : Nat → Int) (k : Nat) : Prop := (∀ j, j < k → f j ≤ F) ∧ (F = 0 ∨ ∃ j, j < k ∧ f j = F)
theorem MaxF.zero (f : Nat → Int) : MaxF 0 f 0 := ⟨fun j h => by omega, .inl rfl⟩
theorem MaxF.up {F : Int} {f : Nat → Int} {k : Nat} (h : MaxF F f k) : MaxF (if F < f k then f k else F) f (k + 1) := by
  obtain ⟨h1, h2⟩ := h
  split
  · refine ⟨fun j hj => ?_, .inr ⟨k, by omega, rfl⟩⟩
    by_cases e : j = k
    · subst e; omega
    · have := h1 j (by omega); omega
  · refine ⟨fun j hj => ?_, ?_⟩
    · by_cases e : j = k
      · subst e; omega
      · exact h1 j (by omega)
    · rcases h2 with h2 | ⟨j, hj, e⟩
      · exact .inl h2
      · exact .inr ⟨j, by omega, e⟩

end Go.Proofs.Qxb6619060a
