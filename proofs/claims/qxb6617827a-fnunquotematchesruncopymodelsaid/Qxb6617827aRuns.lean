/-
  SEAT b6617827a: THE CONTRACT OF unquoteByRuns.
-/
import Derived.Test.Qxb6617827aUnq
import Derived.Lib.AppendStr
import Derived.Lib.BufferRead
namespace Go.Proofs.Qxb6617827a
open Go.RowKit

/-- the slice value v owns the bytes acc -/
def Own (B : Nat) (v : Value) (acc : List Int) (w : World) : Prop := w.ownsRow B 5 1 v acc.length (acc.map (Value.int .u8))

theorem Own.blk {B : Nat} {v : Value} {acc : List Int} {w : World} (h : Own B v acc w) : ∀ k, v.ownBlock = some k → B ≤ k := by
  intro k hk
  rcases h.2 with ⟨rfl, _⟩ | ⟨g, cap, cur, rfl, hg, _⟩
  · cases hk
  · simp [Value.ownBlock] at hk; omega

theorem Try.info5 : (Try.prog.info? 5).map (fun i => (i.zero, i.size, i.bytes)) = some (some (.int .u8 0), 1, 1) := by kernel_rfl

theorem strCells_L (t : ByteArray) : Lib.strCells t = (L t).map (Value.int .u8) := by
  unfold Lib.strCells L; rw [List.map_map]; rfl

theorem append_str {w : World} {ops : Array Oper} {rest : List Oper} {o : Oper} {a : Act} {Q : Exit → Act → World → Prop} (hgd : o.guard = none) (sl x : Operand)
    (ho : o.op = .call { callee := .builtin .append, args := #[sl, x], argTypes := #[31, 9] }) (B : Nat) (v : Value) (acc : List Int) (hs : a.eval sl = v) (hown : Own B v acc w) (t : ByteArray) (hx : a.eval x = .string t)
    (hb : acc.length + t.size ≤ 4194304) (hB : B ≤ w.heap.size)
    (h : ∀ v' w', Own B v' (acc ++ L t) w' → Below B w w' → wpList Try.prog ops Q rest (a.put o.dst v') w') : wpList Try.prog ops Q (o :: rest) a w := by
  obtain ⟨i0, hi, hz0, hz1, hz2⟩ := info_parts Try.info5
  refine Lib.wpList_append_own_string w hgd sl x 31 9 ho B 5 i0 Try.underlying31 Try.underlying9 hi hz0 hz1 hz2 v acc.length _ hs hown t hx (by unfold maxLen; omega) (by omega) hB ?_
  intro v' w' h1 h2 _
  refine h v' w' ?_ ((Below.refl B w).grown h2 hB hown.blk)
  show w'.ownsRow B 5 1 v' (acc ++ L t).length ((acc ++ L t).map (Value.int .u8))
  rw [List.length_append, L_length, List.map_append, ← strCells_L]
  exact h1

theorem append_byte {w : World} {ops : Array Oper} {rest : List Oper} {o : Oper} {a : Act} {Q : Exit → Act → World → Prop} (hgd : o.guard = none) (sl x : Operand)
    (ho : o.op = .call { callee := .builtin .append, args := #[sl, x], argTypes := #[31, 31] }) (B : Nat) (v : Value) (acc : List Int) (hs : a.eval sl = v) (hown : Own B v acc w) (c : Int) (T : TypeId)
    (hx : a.eval x = .slice (some ⟨w.heap.size, 0, none⟩) 1 1) (hb : acc.length ≤ 4194304) (hB : B ≤ w.heap.size)
    (h : ∀ v' w', Own B v' (acc ++ [c]) w' → Below B w w' → wpList Try.prog ops Q rest (a.put o.dst v') w') : wpList Try.prog ops Q (o :: rest) a (w.alloc (.cells #[.int .u8 c] T)) := by
  obtain ⟨i0, hi, hz0, hz1, hz2⟩ := info_parts Try.info5
  refine wpList_append_own _ hgd sl x 31 ho B 5 i0 (.int .u8 0) 1 1 Try.underlying31 hi hz0 hz1 hz2 rfl (by decide) v acc.length _ hs (World.ownsRow.alloc hown _) ⟨w.heap.size, 0, none⟩ 1 1 [.int .u8 c] hx rfl ?_ ?_ (by unfold maxLen; omega) (by omega) (by simp; omega) ?_
  · intro j u hj
    match j, hj with
    | 0, hj => simp at hj; subst hj; simp [Addr.add]
  · intro u hu; simp at hu; subst hu; rfl
  · intro v' w' h1 h2 _
    refine h v' w' ?_ (((Below.refl B w).alloc hB _).grown h2 (by simp; omega) hown.blk)
    show w'.ownsRow B 5 1 v' (acc ++ [c]).length ((acc ++ [c]).map (Value.int .u8))
    rw [List.length_append, List.map_append]
    exact h1

theorem conv_own {B : Nat} {v : Value} {acc : List Int} {w : World} (h : Own B v acc w) (hb : ∀ c ∈ acc, 0 ≤ c ∧ c ≤ 255) : (convert 31 9 v).run Try.prog w = .ok (.string (ofL acc)) w := by
  rcases h.2 with ⟨rfl, h0⟩ | ⟨g, cap, cur, rfl, _, hg, _, _, _, htk⟩
  · rw [Lib.run_convert_nil_bytes w 31 9 5 0 Try.underlying31 Try.underlying5 Try.underlying9]
    have : acc = [] := List.eq_nil_of_length_eq_zero h0
    subst this; rfl
  · have hl : (acc.map fun n => UInt8.ofNat n.toNat).length = acc.length := by simp
    have hc := Lib.bytes_of_row (l := acc.map fun n => UInt8.ofNat n.toNat) hg (by rw [hl, cells_ofL acc hb, ← htk, Nat.mul_one])
    have := run_convert_bytes_back (P := Try.prog) w 31 9 5 ⟨g, 0, none⟩ cap (acc.map fun n => UInt8.ofNat n.toNat) Try.underlying31 Try.underlying5 Try.underlying9 hc
    rw [hl] at this
    exact this

def strLen : Value → Nat | .string s => s.size | _ => 0

set_option maxRecDepth 100000 in
set_option maxHeartbeats 2000000 in
theorem runs_yes (s : ByteArray) (w : World) (hs : s.size ≤ 1048576) (h2 : 2 ≤ s.size) (hq0 : (s[0].toNat : Int) = 34) (hq1 : (s[s.size - 1].toNat : Int) = 34) :
    Calls Try.prog 15 #[.string s] w fun e w' => e = .returned (.string (ofL (unq (ins (L s))))) ∧ Below w.heap.size w w' := by
  obtain ⟨U, hU⟩ : ∃ U, unq (ins (L s)) = U := ⟨_, rfl⟩
  have HU : Hid (unq (ins (L s)) = U) := hU
  clear hU
  obtain ⟨i0, hi, hz0, hz1, hz2⟩ := info_parts Try.info5
  have hd2 : decide ((s.size : Int) < 2) = false := decide_eq_false (by omega)
  have hins : L (s.extract 1 (s.size - 1)) = ins (L s) := by
    rw [L_extract, ins, L_length, show s.size - 1 - 1 = s.size - 2 from by omega]
  have HS : Hid ([] ++ unq (L (s.extract 1 (s.size - 1))) = U) := by rw [hins]; exact HU
  clear hins
  go_enter Try.func15, Try.ntmps15
  go_wp2_with (at_make; refine wpList_make_own _ rfl _ _ 31 rfl w.heap.size 5 i0 (.int .u8 0) 1 Try.underlying31 hi hz0 hz1 _ _ _ (s.size - 1 - 1) rfl rfl rfl (by rw [hz2]; omega) (by unfold maxLen; omega) (Nat.le_refl _) ?_; intro w1 hown hgrow)
  clear hq0 hq1 hd2
  have hB1 : Below w.heap.size w w1 := (Below.refl _ _).grown hgrow (Nat.le_refl _) (fun _ h => by cases h)
  go_loopw [3, 4] (fun x v wr => ∃ (t : ByteArray) (acc : List Int), x = .string t ∧ acc.length + t.size ≤ s.size ∧ Own w.heap.size v acc wr ∧ Below w.heap.size w wr ∧ Hid (acc ++ unq (L t) = U)) (fun x _ _ => strLen x)
  case atStart => exact ⟨_, [], rfl, by simp; omega, hown, hB1, HS⟩
  case round =>
    obtain ⟨t, acc, rfl, hsz, hO, hB, HK⟩ := hrel
    clear hown hgrow hB1 HS
    have hBs := hB.size
    by_cases hpos : 0 < t.size
    · have hposI : (0 : Int) < (t.size : Int) := by omega
      rcases ix_split 92 (L t) 0 with ⟨hI, hno⟩ | ⟨k, hI, hk, hno, he⟩
      · have HI : Hid (ix 92 (L t) 0 = -1) := hI
        have F : Hid ((acc ++ L t) ++ unq (L ⟨#[]⟩) = U) := by
          have := HK.out
          rw [unq_all _ hno] at this
          rw [← this]; simp [Hid, L, unq]
        clear hI hno HK
        go_wp2_with (first
          | (go_at_call 12; refine (index_any _ _ _ (by omega) (-1) HI.out).mono ?_; rintro e w' ⟨rfl, rfl⟩)
          | (at_builtin; refine append_str rfl _ _ rfl w.heap.size _ acc rfl hO t rfl (by omega) hBs ?_; intro v' w2 hO2 hB2))
        go_roundw
        case rel => exact ⟨⟨#[]⟩, _, rfl, by rw [List.length_append, L_length]; exact hsz, hO2, hB.trans hB2, F⟩
        case measure => exact hpos
      · rw [L_length] at hk
        have HI : Hid (ix 92 (L t) 0 = (k : Int)) := by rw [hI]; simp [Hid]
        by_cases hl : k + 1 = t.size
        · have F : Hid ((acc ++ L t) ++ unq (L ⟨#[]⟩) = U) := by
            have := HK.out
            have e2 : (L t).drop (k + 1) = [] := L_end t (k + 1) (by omega)
            rw [e2] at he
            rw [he, unq_last _ hno, ← he] at this
            rw [← this]; simp [Hid, L, unq]
          have hkI : ((k : Int) == (t.size : Int) - 1) = true := by rw [beq_iff_eq]; omega
          clear hI hno HK he hl
          go_wp2_with (first
            | (go_at_call 12; refine (index_any _ _ _ (by omega) (k : Int) HI.out).mono ?_; rintro e w' ⟨rfl, rfl⟩)
            | (at_builtin; refine append_str rfl _ _ rfl w.heap.size _ acc rfl hO t rfl (by omega) hBs ?_; intro v' w2 hO2 hB2))
          go_roundw
          case rel => exact ⟨⟨#[]⟩, _, rfl, by rw [List.length_append, L_length]; exact hsz, hO2, hB.trans hB2, F⟩
          case measure => exact hpos
        · have hk1 : k + 1 < t.size := by omega
          have hXL : L (t.extract 0 k) = (L t).take k := by rw [L_extract]; simp
          have hYL : L (t.extract (k + 2) t.size) = (L t).drop (k + 2) := by
            rw [L_extract]; exact List.take_of_length_le (by rw [List.length_drop, L_length]; omega)
          have F : Hid (((acc ++ L (t.extract 0 k)) ++ [(t[k + 1].toNat : Int)]) ++ unq (L (t.extract (k + 2) t.size)) = U) := by
            have := HK.out
            rw [he, L_drop t (k + 1) hk1, unq_free _ _ hno, unq_esc] at this
            rw [hXL, hYL, ← this]; simp [Hid]
          have hkI : ((k : Int) == (t.size : Int) - 1) = false := by rw [beq_eq_false_iff_ne]; omega
          have hk1I : (k : Int) + 1 < (t.size : Int) := by omega
          have hXs : (t.extract 0 k).size = k := by rw [← L_length, hXL, List.length_take, L_length]; omega
          have hYs : (t.extract (k + 2) t.size).size = t.size - (k + 2) := by rw [← L_length, hYL, List.length_drop, L_length]
          have HXs : Hid ((L (t.extract 0 k)).length = k) := by rw [L_length]; exact hXs
          have HYs : Hid ((t.extract (k + 2) t.size).size = t.size - (k + 2)) := hYs
          clear hI hno HK he hl hXL hYL hXs hYs
          go_wp2_with (first
            | (go_at_call 12; refine (index_any _ _ _ (by omega) (k : Int) HI.out).mono ?_; rintro e w' ⟨rfl, rfl⟩)
            | (at_builtin; refine append_str rfl (.tmp 48) (.tmp 51) rfl w.heap.size _ acc rfl hO (t.extract 0 k) rfl (by have := HXs.out; rw [L_length] at this; omega) hBs ?_; intro v' w2 hO2 hB2; have hBs2 := (hB.trans hB2).size)
            | (at_builtin; refine append_byte rfl (.tmp 53) (.tmp 58) rfl w.heap.size v' _ rfl hO2 (t[k + 1].toNat : Int) 5 rfl (by have := HXs.out; rw [List.length_append]; omega) hBs2 ?_; intro v'' w3 hO3 hB3))
          go_roundw
          case rel => exact ⟨_, _, rfl, by have h3 := HXs.out; have h4 := HYs.out; simp only [List.length_append, List.length_cons, List.length_nil]; omega, hO3, (hB.trans hB2).trans hB3, F⟩
          case measure => have h4 := HYs.out; show (t.extract (k + 2) t.size).size < t.size; omega
    · have hposI : ¬ (0 : Int) < (t.size : Int) := by omega
      have F : acc = U := by
        have := HK.out
        have e : L t = [] := List.eq_nil_of_length_eq_zero (by rw [L_length]; omega)
        rw [e] at this
        simpa [unq] using this
      subst F
      have hbd : ∀ c ∈ acc, 0 ≤ c ∧ c ≤ 255 := by
        intro c hc
        rw [← HU.out] at hc
        have := (unq_bd (ins (L s)) _ (Nat.le_refl _)).2 c hc
        exact L_bd s c (List.mem_of_mem_drop (List.mem_of_mem_take this))
      have hcv := conv_own hO hbd
      clear HK
      go_wp2
      go_ret
      exact ⟨by rw [HU.out]; rfl, hB⟩
set_option maxHeartbeats 1000000 in
theorem runs_no (s : ByteArray) (w : World) (h : isQ (L s) = false) (hs : s.size ≤ 1048576) :
    Calls Try.prog 15 #[.string s] w fun e w' => e = .returned (.string s) ∧ Below w.heap.size w w' := by
  by_cases h2 : 2 ≤ s.size
  · have hl : (L s).length = s.size := L_length s
    have g0 := L_getD s 0 (by omega)
    have g1 := L_getD s (s.size - 1) (by omega)
    rw [isQ, hl, g0, g1] at h
    have h2I : (2 : Int) ≤ (s.size : Int) := by omega
    by_cases q0 : (s[0].toNat : Int) = 34
    · have q1 : ((s[s.size - 1].toNat : Int) != 34) = true := by rw [bne, show ((s[s.size - 1].toNat : Int) == 34) = false from by simpa [h2, q0] using h]; rfl
      clear h g0 g1
      go_enter Try.func15, Try.ntmps15
      go_wp2
      go_ret
      exact ⟨rfl, Below.refl _ _⟩
    · have q0' : ((s[0].toNat : Int) != 34) = true := by simpa using q0
      clear h g0 g1 q0
      go_enter Try.func15, Try.ntmps15
      go_wp2
      go_ret
      exact ⟨rfl, Below.refl _ _⟩
  · have h2I : (s.size : Int) < 2 := by omega
    clear h
    go_enter Try.func15, Try.ntmps15
    go_wp2
    go_ret
    exact ⟨rfl, Below.refl _ _⟩

theorem runs_any (s : ByteArray) (w : World) (hs : s.size ≤ 1048576) :
    Calls Try.prog 15 #[.string s] w fun e w' => e = .returned (.string (unqS s)) ∧ Below w.heap.size w w' := by
  cases h : isQ (L s)
  · have : unqS s = s := by rw [unqS, h]; rfl
    rw [this]; exact runs_no s w h hs
  · have e : unqS s = ofL (unq (ins (L s))) := by rw [unqS, if_pos h]
    rw [e]
    have hl : (L s).length = s.size := L_length s
    rw [isQ, hl, Bool.and_eq_true, Bool.and_eq_true, decide_eq_true_eq] at h
    obtain ⟨⟨h2, q0⟩, q1⟩ := h
    have g0 := L_getD s 0 (by omega)
    have g1 := L_getD s (s.size - 1) (by omega)
    rw [g0, beq_iff_eq] at q0
    rw [g1, beq_iff_eq] at q1
    exact runs_yes s w hs h2 q0 q1

set_option maxHeartbeats 400000 in
theorem model_walk (s : ByteArray) (w : World) (hs : s.size ≤ 1048576) :
    Calls Try.prog 5 #[.string s] w fun e w' => e = .returned (.bool true) ∧ Below w.heap.size w w' := by
  go_enter Try.func5, Try.ntmps5
  go_wp2_with (first
    | (go_at_call 13; go_in)
    | (go_at_call 14; refine (zzUnq_any _ _ (by omega)).mono ?_; rintro e w1 ⟨rfl, hB1⟩)
    | (go_at_call 15; refine (runs_any _ _ hs).mono ?_; rintro e w2 ⟨rfl, hB2⟩))
  go_ret
  exact ⟨retB (by simp), hB1.trans (hB2.mono hB1.size)⟩

theorem model_big (s : ByteArray) (w : World) (hs : ¬ s.size ≤ 1048576) :
    Calls Try.prog 5 #[.string s] w fun e w' => e = .returned (.bool true) ∧ Below w.heap.size w w' := by
  have h : (1048576 : Int) < (s.size : Int) := by omega
  go_enter Try.func5, Try.ntmps5
  go_wp2
  go_ret
  exact ⟨rfl, Below.refl _ _⟩

end Go.Proofs.Qxb6617827a
