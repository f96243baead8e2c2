/- Plain laws: bytes and their bits, there and back; the data of all blocks are the payload. No program in sight. Plain laws: words are made of bits, one by one. No program in sight. Plain laws: what stands behind the text's bits in the payload. No program in sight. -/
import Derived.Test.YtplpafbkalkchaaGreatDoorW12
import Derived.Test.YtplpafbkalkchaaGreatDoorW25
import Derived.Test.YtplpafbkalkchaaGreatDoorW27
namespace Go.Proofs.YtplpafbkalkchaaGreatDoor
open Go Go.RowKit Go.Proofs
set_option linter.all false

section
theorem byteBits_at (xs : List Nat) (i t x : Nat) (hx : xs[i]? = some x) (ht : t < 8) : (byteBits xs)[8 * i + t]? = some (x.testBit (7 - t)) := by
  have hl : i < xs.length := by
    rcases Nat.lt_or_ge i xs.length with h1 | h1
    · exact h1
    · rw [List.getElem?_eq_none h1] at hx; cases hx
  have hd : xs.drop i = x :: xs.drop (i + 1) := by
    rw [List.drop_eq_getElem_cons hl]
    rw [List.getElem?_eq_getElem hl] at hx
    rw [Option.some.inj hx]
  rw [← List.getElem?_drop, byteBits_drop, hd, byteBits_cons, List.getElem?_append_left (by rw [vbits_length]; exact ht), vbits_at x 8 t ht]
theorem byteAt_lt (bs : List Bool) (o : Nat) : byteAt bs o < 256 := byteUpto_lt bs o 8 (Nat.le_refl _)
theorem byteAt_bit (bs : List Bool) (o t : Nat) (ht : t < 8) : (byteAt bs o).testBit (7 - t) = bs.getD (o + t) false := by
  unfold byteAt
  rw [byteUpto_bit bs o 8 (Nat.le_refl _) t ht, decide_eq_true ht, Bool.true_and]
theorem byte_ext {a b : Nat} (ha : a < 256) (hb : b < 256) (h : ∀ t, t < 8 → a.testBit (7 - t) = b.testBit (7 - t)) : a = b := by
  apply Nat.eq_of_testBit_eq
  intro i
  rcases Nat.lt_or_ge i 8 with h1 | h1
  · have := h (7 - i) (by omega)
    rw [show 7 - (7 - i) = i by omega] at this
    exact this
  · have h2 : ∀ x, x < 256 → x.testBit i = false := fun x hx => Nat.testBit_lt_two_pow (Nat.lt_of_lt_of_le hx (Nat.le_trans (by decide : 256 ≤ 2 ^ 8) (Nat.pow_le_pow_right (by decide) h1)))
    rw [h2 a ha, h2 b hb]
theorem byteBits_bytesAt (bs : List Bool) (n : Nat) (h : 8 * n ≤ bs.length) : byteBits (bytesAt bs 0 n) = bs.take (8 * n) := by
  apply List.ext_getElem?
  intro j
  have hbl : (bytesAt bs 0 n).length = n := bytesAt_len bs 0 n
  rcases Nat.lt_or_ge j (8 * n) with h1 | h1
  · have hx : (bytesAt bs 0 n)[j / 8]? = some (byteAt bs (0 + 8 * (j / 8))) := by
      unfold bytesAt
      rw [List.getElem?_map, List.getElem?_range (by omega)]; rfl
    have := byteBits_at _ (j / 8) (j % 8) _ hx (Nat.mod_lt _ (by decide))
    rw [show 8 * (j / 8) + j % 8 = j by omega] at this
    rw [this, byteAt_bit _ _ _ (Nat.mod_lt _ (by decide)), show 0 + 8 * (j / 8) + j % 8 = j by omega, List.getElem?_take_of_lt h1, List.getD_eq_getElem?_getD, List.getElem?_eq_getElem (by omega)]
    rfl
  · rw [List.getElem?_eq_none (by rw [byteBits_len, hbl]; omega), List.getElem?_eq_none (by rw [List.length_take]; omega)]
theorem bytesAt_add (bs : List Bool) (o a b : Nat) : bytesAt bs o (a + b) = bytesAt bs o a ++ bytesAt bs (o + 8 * a) b := by
  unfold bytesAt
  rw [List.range_add, List.map_append, List.map_map]
  congr 1
  apply List.map_congr_left
  intro t _
  show byteAt bs (o + 8 * (a + t)) = byteAt bs (o + 8 * a + 8 * t)
  congr 1; omega
theorem blocks_all (bs : List Bool) (nT nD nB : Nat) : ∀ i, (List.range i).flatMap (blockData bs nT nD nB) = bytesAt bs 0 (offs nT nD nB i)
  | 0 => by simp [offs, bytesAt]
  | i + 1 => by
    rw [List.range_succ, List.flatMap_append, blocks_all bs nT nD nB i]
    show _ = bytesAt bs 0 (offs nT nD nB i + dataLen nT nD nB i)
    rw [bytesAt_add]
    simp [blockData]
/-- The data words of all blocks, one behind the other. -/
theorem rows_data {bs : List Bool} {nT nD nB ec : Nat} {rows : List (List Nat × List Nat)} (h : RowsFor bs nT nD nB ec nB rows) (ho : offs nT nD nB nB = nD) : rows.flatMap (·.1) = bytesAt bs 0 nD := by
  rw [← ho, ← blocks_all]
  have e : rows = (List.range nB).map fun j => rows.getD j ([], []) := by
    apply List.ext_getElem
    · rw [List.length_map, List.length_range]; exact h.1
    · intro i h1 h2
      rw [List.getElem_map, List.getElem_range, List.getD_eq_getElem?_getD, List.getElem?_eq_getElem h1]; rfl
  rw [e, List.flatMap_map]
  have h2 := h.2
  have h1 := h.1
  apply congrArg List.flatten
  apply List.map_congr_left
  intro j hj
  rw [List.mem_range] at hj
  have hlt : j < rows.length := by omega
  have := (h2 j rows[j] (List.getElem?_eq_getElem hlt)).1
  rw [List.getD_eq_getElem?_getD, List.getElem?_eq_getElem hlt]
  exact this
end

section
/-- The number of the bits that are no whole word yet. -/
def curB (rb : List Bool) : Nat := bval (rb.drop (8 * (rb.length / 8)))
/-- The words so far, of total places. -/
def wordsOf (rb : List Bool) (total : Nat) : List Value := rowOf total fun i => .int .u8 ((if i < rb.length / 8 then rd rb (8 * i) 8 else 0 : Nat) : Int)
theorem curB_lt (rb : List Bool) : curB rb < 2 ^ (rb.length % 8) := by
  unfold curB
  have := bval_lt (rb.drop (8 * (rb.length / 8)))
  rw [List.length_drop, show rb.length - 8 * (rb.length / 8) = rb.length % 8 by omega] at this
  exact this
theorem curB_few (rb : List Bool) : curB rb < 128 := by
  have h1 := curB_lt rb
  have h2 : 2 ^ (rb.length % 8) ≤ 2 ^ 7 := Nat.pow_le_pow_right (by decide) (by omega)
  omega
theorem rd_stay (rb : List Bool) (b : Bool) (o : Nat) (h : o + 8 ≤ rb.length) : rd (rb ++ [b]) o 8 = rd rb o 8 := by
  unfold rd
  rw [List.drop_append_of_le_length (by omega), List.take_append_of_le_length (by rw [List.length_drop]; omega)]
theorem next_part {rb : List Bool} (b : Bool) (h : rb.length % 8 ≠ 7) (total : Nat) :
    (rb ++ [b]).length / 8 = rb.length / 8 ∧ (rb ++ [b]).length % 8 = rb.length % 8 + 1 ∧ curB (rb ++ [b]) = 2 * curB rb + bnum b ∧ wordsOf (rb ++ [b]) total = wordsOf rb total := by
  have e1 : (rb ++ [b]).length / 8 = rb.length / 8 := by rw [List.length_append, List.length_singleton]; omega
  have e2 : (rb ++ [b]).length % 8 = rb.length % 8 + 1 := by rw [List.length_append, List.length_singleton]; omega
  refine ⟨e1, e2, ?_, ?_⟩
  · unfold curB
    rw [e1, List.drop_append_of_le_length (by omega), bval_snoc]
  · unfold wordsOf
    rw [e1]
    apply rowOf_congr
    intro i _
    split
    · rw [rd_stay rb b (8 * i) (by omega)]
    · rfl
theorem next_full {rb : List Bool} (b : Bool) (h : rb.length % 8 = 7) (total : Nat) :
    (rb ++ [b]).length / 8 = rb.length / 8 + 1 ∧ (rb ++ [b]).length % 8 = 0 ∧ curB (rb ++ [b]) = 0 ∧ wordsOf (rb ++ [b]) total = (wordsOf rb total).set (rb.length / 8) (.int .u8 ((2 * curB rb + bnum b : Nat) : Int)) := by
  have e1 : (rb ++ [b]).length / 8 = rb.length / 8 + 1 := by rw [List.length_append, List.length_singleton]; omega
  have e2 : (rb ++ [b]).length % 8 = 0 := by rw [List.length_append, List.length_singleton]; omega
  refine ⟨e1, e2, ?_, ?_⟩
  · unfold curB
    rw [List.drop_of_length_le (by rw [e1, List.length_append, List.length_singleton]; omega)]; rfl
  · unfold wordsOf
    rw [rowOf_set, e1]
    apply rowOf_congr
    intro i _
    by_cases e : i = rb.length / 8
    · subst e
      rw [if_pos rfl, if_pos (by omega)]
      congr 2
      unfold rd curB
      rw [List.drop_append_of_le_length (by omega), List.take_of_length_le (by rw [List.length_append, List.length_drop, List.length_singleton]; omega), bval_snoc]
    · rw [if_neg e]
      by_cases h3 : i < rb.length / 8
      · rw [if_pos (by omega), if_pos h3, rd_stay rb b (8 * i) (by omega)]
      · rw [if_neg (by omega), if_neg h3]
theorem wordsOf_zero (total : Nat) : wordsOf [] total = List.replicate total (.int .u8 0) := by
  unfold wordsOf
  rw [rowOf_const]
  apply rowOf_congr
  intro i _
  rw [if_neg (by simp)]; rfl
theorem wordsOf_at (rb : List Bool) (total i : Nat) (h : i < total) (h2 : rb.length / 8 ≤ i) : (wordsOf rb total)[i]? = some (.int .u8 0) := by
  unfold wordsOf
  rw [rowOf_get _ h, if_neg (by omega)]; rfl
/-- Bytes' bits, and a few more: the words are the bytes. -/
theorem wordsOf_bytes (xs : List Nat) (hx : ∀ x ∈ xs, x < 256) (r : List Bool) (hr : r.length < 8) : wordsOf (byteBits xs ++ r) xs.length = xs.map u8c := by
  unfold wordsOf
  apply List.ext_getElem?
  intro i
  rcases Nat.lt_or_ge i xs.length with h | h
  · rw [rowOf_get _ h, List.getElem?_map, List.getElem?_eq_getElem h, List.length_append, byteBits_len, if_pos (by omega)]
    have e : rd (byteBits xs ++ r) (8 * i) 8 = rd (byteBits xs) (8 * i) 8 := by
      unfold rd
      rw [List.drop_append_of_le_length (by rw [byteBits_len]; omega), List.take_append_of_le_length (by rw [List.length_drop, byteBits_len]; omega)]
    rw [e, rd_byte xs i xs[i] (List.getElem?_eq_getElem h) (hx _ (List.getElem_mem h))]
    rfl
  · rw [List.getElem?_eq_none (by rw [rowOf_len]; omega), List.getElem?_eq_none (by rw [List.length_map]; omega)]
/-- The bits that stand in the cells L, where no function stands. -/
def rdL (pat f : Nat → Nat → Bool) (L : List (Nat × Nat)) : List Bool := (L.filter fun p => !(pat p.2 p.1)).map fun p => f p.2 p.1
theorem rdL_skip {pat f : Nat → Nat → Bool} {L : List (Nat × Nat)} {p : Nat × Nat} (h : pat p.2 p.1 = true) : rdL pat f (L ++ [p]) = rdL pat f L := by
  unfold rdL; rw [List.filter_append, List.filter_cons]; simp [h]
theorem rdL_bit {pat f : Nat → Nat → Bool} {L : List (Nat × Nat)} {p : Nat × Nat} {b : Bool} (h : pat p.2 p.1 = false) (hb : f p.2 p.1 = b) : rdL pat f (L ++ [p]) = rdL pat f L ++ [b] := by
  unfold rdL; rw [List.filter_append, List.filter_cons]; simp [h, hb]
theorem rdL_le (pat f : Nat → Nat → Bool) (L R : List (Nat × Nat)) : (rdL pat f L).length ≤ (rdL pat f (L ++ R)).length := by
  unfold rdL; rw [List.filter_append, List.map_append, List.length_append]; omega
/-- The cells that are seen ahead of the k-th one of row t in double column c. -/
def seenL (n c t k : Nat) : List (Nat × Nat) := zig n c ++ rowsOfCol n c t ++ [(colX n c, rowY n c t), (colX n c - 1, rowY n c t)].take k
theorem seenL_next (n c t k : Nat) (hk : k < 2) : seenL n c t (k + 1) = seenL n c t k ++ [(colX n c - k, rowY n c t)] := by
  unfold seenL
  match k, hk with
  | 0, _ => simp
  | 1, _ => simp
theorem seenL_row (n c t : Nat) : seenL n c t 2 = seenL n c (t + 1) 0 := by
  unfold seenL; rw [rowsOfCol_succ]; simp
theorem seenL_col (n c : Nat) : seenL n c n 0 = seenL n (c + 1) 0 0 := by
  unfold seenL; rw [zig_succ]; simp [rowsOfCol]
theorem seenL_start (n : Nat) : seenL n 0 0 0 = [] := by simp [seenL, zig, rowsOfCol]
theorem seenL_end (n C : Nat) : seenL n C 0 0 = zig n C := by simp [seenL, rowsOfCol]
theorem rows_pre (n c : Nat) : ∀ d t, t + d ≤ n → ∃ R, rowsOfCol n c (t + d) = rowsOfCol n c t ++ R
  | 0, t, _ => ⟨[], by simp⟩
  | d + 1, t, h => by
    obtain ⟨R, hR⟩ := rows_pre n c d t (by omega)
    exact ⟨R ++ [(colX n c, rowY n c (t + d)), (colX n c - 1, rowY n c (t + d))], by rw [← Nat.add_assoc, rowsOfCol_succ, hR, List.append_assoc]⟩
theorem zig_pre (n c : Nat) : ∀ d, ∃ R, zig n (c + d) = zig n c ++ R
  | 0 => ⟨[], by simp⟩
  | d + 1 => by
    obtain ⟨R, hR⟩ := zig_pre n c d
    exact ⟨R ++ rowsOfCol n (c + d) n, by rw [← Nat.add_assoc, zig_succ, hR, List.append_assoc]⟩
theorem seenL_pre (n C c t k : Nat) (hc : c < C) (ht : t < n) (hk : k ≤ 2) : ∃ R, zig n C = seenL n c t k ++ R := by
  obtain ⟨R1, h1⟩ := zig_pre n (c + 1) (C - (c + 1))
  obtain ⟨R2, h2⟩ := rows_pre n c (n - (t + 1)) (t + 1) (by omega)
  rw [show c + 1 + (C - (c + 1)) = C by omega] at h1
  rw [show t + 1 + (n - (t + 1)) = n by omega] at h2
  refine ⟨[(colX n c, rowY n c t), (colX n c - 1, rowY n c t)].drop k ++ R2 ++ R1, ?_⟩
  rw [h1, zig_succ, h2, rowsOfCol_succ]
  unfold seenL
  have e := List.take_append_drop k [(colX n c, rowY n c t), (colX n c - 1, rowY n c t)]
  conv => lhs; rw [← e]
  simp only [List.append_assoc]
theorem seen_few (pat f : Nat → Nat → Bool) (n C c t k : Nat) (hc : c < C) (ht : t < n) (hk : k ≤ 2) : (rdL pat f (seenL n c t k)).length ≤ (rdL pat f (zig n C)).length := by
  obtain ⟨R, hR⟩ := seenL_pre n C c t k hc ht hk
  rw [hR]; exact rdL_le pat f _ _
theorem free_rdL (K : Nat) (f : Nat → Nat → Bool) : rdL (patOf K) f (zig (21 + 4 * K) (10 + 2 * K)) = (free K).map fun p => f p.2 p.1 := rfl
end

section
theorem filled_ahead (n : Nat) (bs : List Bool) : Ahead (filled n bs) 0 (bs ++ List.replicate (min 4 (8 * n - bs.length)) false) := by
  unfold filled evened ended
  exact ⟨_, by rw [List.drop_zero, List.append_assoc]⟩
/-- Four bits behind the text, if there are so many, are empty. -/
theorem filled_end (n : Nat) (bs : List Bool) (h : bs.length + 4 ≤ 8 * n) : rd (filled n bs) bs.length 4 = 0 := by
  have h1 := (filled_ahead n bs).right
  rw [Nat.zero_add, Nat.min_eq_left (by omega)] at h1
  exact Ahead.rd (v := 0) (k := 4) (by simpa [vbits, List.range, List.range.loop] using h1) (by decide)
theorem seg_parts (n : Nat) (s : ByteArray) : Ahead (filled n (segBits s)) 0 (vbits (modeOf (chars s)) 4 4) ∧ Ahead (filled n (segBits s)) 4 (vbits s.size (cbits (modeOf (chars s))) (cbits (modeOf (chars s)))) ∧
    Ahead (filled n (segBits s)) (4 + cbits (modeOf (chars s))) (textBits (modeOf (chars s)) (chars s)) := by
  have h0 := (filled_ahead n (segBits s)).left
  unfold segBits at h0 ⊢
  have h1 := h0.left
  have h2 := h0.right
  have h3 := h1.right
  rw [List.length_append, vbits_length, vbits_length, Nat.zero_add] at h2
  rw [vbits_length, Nat.zero_add] at h3
  exact ⟨h1.left, h3, h2⟩
end
end Go.Proofs.YtplpafbkalkchaaGreatDoor
