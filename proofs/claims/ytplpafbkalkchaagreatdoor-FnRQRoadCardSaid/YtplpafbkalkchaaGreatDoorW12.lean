/- Plain laws: numbers out of bits. No program in sight. Plain laws: words that were mixed are parted again. No program in sight. -/
import Derived.Test.YtplpafbkalkchaaGreatDoorW11
namespace Go.Proofs.YtplpafbkalkchaaGreatDoor
open Go Go.RowKit Go.Proofs
set_option linter.all false

section
def bnum (b : Bool) : Nat := if b then 1 else 0
/-- The number of bits, the highest first. -/
def bval (bs : List Bool) : Nat := bs.foldl (fun a b => 2 * a + bnum b) 0
theorem bval_snoc (bs : List Bool) (b : Bool) : bval (bs ++ [b]) = 2 * bval bs + bnum b := by unfold bval; rw [List.foldl_append]; rfl
theorem bnum_lt (b : Bool) : bnum b < 2 := by cases b <;> decide
theorem snoc_ind {P : List Bool → Prop} (h0 : P []) (h1 : ∀ l b, P l → P (l ++ [b])) (l : List Bool) : P l := by
  rw [← List.reverse_reverse l]
  induction l.reverse with
  | nil => exact h0
  | cons b r ih => rw [List.reverse_cons]; exact h1 _ _ ih
theorem bval_append (a c : List Bool) : bval (a ++ c) = bval a * 2 ^ c.length + bval c := by
  refine snoc_ind (P := fun c => bval (a ++ c) = bval a * 2 ^ c.length + bval c) ?_ ?_ c
  · simp [bval]
  · intro l b ih
    rw [← List.append_assoc, bval_snoc, ih, bval_snoc, List.length_append, List.length_singleton, Nat.pow_succ, ← Nat.mul_assoc]
    generalize bval a * 2 ^ l.length = z
    omega
theorem bval_lt (bs : List Bool) : bval bs < 2 ^ bs.length := by
  refine snoc_ind (P := fun bs => bval bs < 2 ^ bs.length) (by decide) ?_ bs
  intro l b ih
  rw [bval_snoc, List.length_append, List.length_singleton, Nat.pow_succ]
  have := bnum_lt b
  omega
theorem bnum_testBit (v e : Nat) : bnum (v.testBit e) = v / 2 ^ e % 2 := by
  rw [Nat.testBit_eq_decide_div_mod_eq]
  unfold bnum
  rcases Nat.mod_two_eq_zero_or_one (v / 2 ^ e) with h | h <;> rw [h] <;> rfl
theorem vbits_at (v k t : Nat) (h : t < k) : (vbits v k k)[t]? = some (v.testBit (k - 1 - t)) := by
  unfold vbits; rw [List.getElem?_map, List.getElem?_range h]; rfl
/-- A part of a number's bits. -/
theorem bval_part (v k o : Nat) : ∀ t, o + t ≤ k → bval (((vbits v k k).drop o).take t) = v / 2 ^ (k - o - t) % 2 ^ t
  | 0, _ => by simp [bval, Nat.mod_one]
  | t + 1, h => by
    have ih := bval_part v k o t (by omega)
    have hg : ((vbits v k k).drop o)[t]? = some (v.testBit (k - 1 - (o + t))) := by rw [List.getElem?_drop, vbits_at v k (o + t) (by omega)]
    rw [List.take_add_one, hg, Option.toList_some, bval_snoc, ih, bnum_testBit, show k - 1 - (o + t) = k - o - (t + 1) from by omega, show k - o - t = k - o - (t + 1) + 1 from by omega]
    generalize k - o - (t + 1) = e
    rw [Nat.pow_succ, ← Nat.div_div_eq_div_mul, Nat.pow_succ, Nat.mul_comm (2 ^ t) 2, Nat.mod_mul]
    omega
theorem bval_vbits (v k : Nat) (h : v < 2 ^ k) : bval (vbits v k k) = v := by
  have := bval_part v k 0 k (by omega)
  rw [List.drop_zero, List.take_of_length_le (by rw [vbits_length]; omega), Nat.sub_zero, Nat.sub_self, Nat.pow_zero, Nat.div_one, Nat.mod_eq_of_lt h] at this
  exact this
/-- The number of k bits from p on. -/
def rd (bs : List Bool) (p k : Nat) : Nat := bval ((bs.drop p).take k)
theorem rd_lt (bs : List Bool) (p k : Nat) : rd bs p k < 2 ^ k := by
  unfold rd
  exact Nat.lt_of_lt_of_le (bval_lt _) (Nat.pow_le_pow_right (by decide) (List.length_take_le _ _))
theorem rd_add (bs : List Bool) (p a b : Nat) (h : p + a + b ≤ bs.length) : rd bs p (a + b) = rd bs p a * 2 ^ b + rd bs (p + a) b := by
  unfold rd
  rw [List.take_add, bval_append, List.drop_drop, List.length_take, List.length_drop, Nat.min_eq_left (by omega)]
theorem rd_zero (bs : List Bool) (p : Nat) : rd bs p 0 = 0 := by simp [rd, bval]
theorem byteBits_cons (x : Nat) (xs : List Nat) : byteBits (x :: xs) = vbits x 8 8 ++ byteBits xs := rfl
theorem byteBits_drop : ∀ (xs : List Nat) (i : Nat), (byteBits xs).drop (8 * i) = byteBits (xs.drop i)
  | _, 0 => by simp
  | [], i + 1 => by simp [byteBits]
  | x :: xs, i + 1 => by
    rw [byteBits_cons, show 8 * (i + 1) = 8 + 8 * i from by omega, ← List.drop_drop, List.drop_append_of_le_length (by rw [vbits_length]; omega), List.drop_of_length_le (l := vbits x 8 8) (by rw [vbits_length]; omega), List.nil_append, byteBits_drop xs i, List.drop_succ_cons]
theorem rd_in (xs : List Nat) (i o t x : Nat) (hx : xs[i]? = some x) (h : o + t ≤ 8) : rd (byteBits xs) (8 * i + o) t = x / 2 ^ (8 - o - t) % 2 ^ t := by
  unfold rd
  rw [← List.drop_drop, byteBits_drop]
  have hl : i < xs.length := by
    rcases Nat.lt_or_ge i xs.length with h1 | h1
    · exact h1
    · rw [List.getElem?_eq_none h1] at hx; cases hx
  have hd : xs.drop i = x :: xs.drop (i + 1) := by
    rw [List.drop_eq_getElem_cons hl]
    rw [List.getElem?_eq_getElem hl] at hx
    rw [Option.some.inj hx]
  rw [hd, byteBits_cons, List.drop_append_of_le_length (by rw [vbits_length]; omega), List.take_append_of_le_length (by rw [List.length_drop, vbits_length]; omega), bval_part x 8 o t h]
/-- A whole byte. -/
theorem rd_byte (xs : List Nat) (i x : Nat) (hx : xs[i]? = some x) (h : x < 256) : rd (byteBits xs) (8 * i) 8 = x := by
  have := rd_in xs i 0 8 x hx (by omega)
  rw [Nat.add_zero, Nat.sub_zero, Nat.sub_self, Nat.pow_zero, Nat.div_one, Nat.mod_eq_of_lt (by omega)] at this
  exact this
/-- Behind p stand the bits xs, whatever follows. -/
def Ahead (bs : List Bool) (p : Nat) (xs : List Bool) : Prop := ∃ r, bs.drop p = xs ++ r
theorem Ahead.fits {bs xs : List Bool} {p : Nat} (h : Ahead bs p xs) (hx : xs ≠ []) : p + xs.length ≤ bs.length := by
  obtain ⟨r, hr⟩ := h
  have := congrArg List.length hr
  rw [List.length_drop, List.length_append] at this
  have : 0 < xs.length := by cases xs with
    | nil => exact absurd rfl hx
    | cons a l => simp
  omega
theorem Ahead.left {bs xs ys : List Bool} {p : Nat} (h : Ahead bs p (xs ++ ys)) : Ahead bs p xs := by
  obtain ⟨r, hr⟩ := h; exact ⟨ys ++ r, by rw [hr, List.append_assoc]⟩
theorem Ahead.right {bs xs ys : List Bool} {p : Nat} (h : Ahead bs p (xs ++ ys)) : Ahead bs (p + xs.length) ys := by
  obtain ⟨r, hr⟩ := h
  refine ⟨r, ?_⟩
  rw [← List.drop_drop, hr, List.append_assoc, List.drop_append_of_le_length (Nat.le_refl _), List.drop_length, List.nil_append]
theorem Ahead.rd {bs : List Bool} {p v k : Nat} (h : Ahead bs p (vbits v k k)) (hv : v < 2 ^ k) : rd bs p k = v := by
  obtain ⟨r, hr⟩ := h
  unfold YtplpafbkalkchaaGreatDoor.rd
  rw [hr, List.take_append_of_le_length (by rw [vbits_length]; omega), List.take_of_length_le (by rw [vbits_length]; omega), bval_vbits v k hv]
end

section
theorem colOf_append (a b : List (List Nat)) (i : Nat) : colOf (a ++ b) i = colOf a i ++ colOf b i := by unfold colOf; rw [List.flatMap_append]
theorem colOf_full (i : Nat) : ∀ rows : List (List Nat), (∀ r ∈ rows, i < r.length) → colOf rows i = rows.map fun r => r.getD i 0
  | [], _ => rfl
  | r :: rows, h => by
    have h1 := h r List.mem_cons_self
    have h2 := colOf_full i rows (fun r hr => h r (List.mem_cons_of_mem _ hr))
    have e : colOf (r :: rows) i = (r[i]?).toList ++ colOf rows i := rfl
    rw [e, h2, List.getElem?_eq_getElem h1, List.map_cons, List.getD_eq_getElem?_getD, List.getElem?_eq_getElem h1]; rfl
theorem colOf_none (i : Nat) : ∀ rows : List (List Nat), (∀ r ∈ rows, r.length ≤ i) → colOf rows i = []
  | [], _ => rfl
  | r :: rows, h => by
    have h1 := h r List.mem_cons_self
    have h2 := colOf_none i rows (fun r hr => h r (List.mem_cons_of_mem _ hr))
    have e : colOf (r :: rows) i = (r[i]?).toList ++ colOf rows i := rfl
    rw [e, h2, List.getElem?_eq_none h1]; rfl
theorem getD_map_row (rows : List (List Nat)) (i j : Nat) (h : j < rows.length) : (rows.map fun r => r.getD i 0).getD j 0 = (rows.getD j []).getD i 0 := by
  rw [List.getD_eq_getElem?_getD, List.getElem?_map, List.getElem?_eq_getElem h, List.getD_eq_getElem?_getD (l := rows), List.getElem?_eq_getElem h]; rfl
theorem getD_left {a b : List Nat} {i : Nat} (h : i < a.length) : (a ++ b).getD i 0 = a.getD i 0 := by
  rw [List.getD_eq_getElem?_getD, List.getElem?_append_left h, List.getD_eq_getElem?_getD]
theorem getD_right {a b : List Nat} {i : Nat} (h : a.length ≤ i) : (a ++ b).getD i 0 = b.getD (i - a.length) 0 := by
  rw [List.getD_eq_getElem?_getD, List.getElem?_append_right h, List.getD_eq_getElem?_getD]
theorem ilv_at (rows : List (List Nat)) : ∀ m, (∀ r ∈ rows, m ≤ r.length) → (ilv rows m).length = m * rows.length ∧ ∀ i j, i < m → j < rows.length → (ilv rows m).getD (i * rows.length + j) 0 = (rows.getD j []).getD i 0
  | 0, _ => ⟨by simp [ilv], by intro i j h; omega⟩
  | m + 1, h => by
    have ih := ilv_at rows m (fun r hr => by have := h r hr; omega)
    have hc := colOf_full m rows (fun r hr => by have := h r hr; omega)
    have e : ilv rows (m + 1) = ilv rows m ++ colOf rows m := rfl
    rw [e, hc]
    refine ⟨by rw [List.length_append, ih.1, List.length_map, Nat.succ_mul], ?_⟩
    intro i j hi hj
    rcases Nat.lt_or_ge i m with h1 | h1
    · rw [getD_left (by rw [ih.1]; have := Nat.mul_le_mul_right rows.length (show i + 1 ≤ m by omega); rw [Nat.succ_mul] at this; omega)]
      exact ih.2 i j h1 hj
    · obtain rfl : i = m := by omega
      rw [getD_right (by rw [ih.1]; omega), ih.1, Nat.add_sub_cancel_left]
      exact getD_map_row rows i j hj
/-- Word i of block j, out of the mixed words: nB blocks, short data words each, from block ls on one more; nD data words in all. -/
def cwAt (raw : List Nat) (nB short ls nD j i : Nat) : Nat :=
  raw.getD (if i < short then i * nB + j else if i = short ∧ ls ≤ j then short * nB + (j - ls) else nD + (i - (if ls ≤ j then short + 1 else short)) * nB + j) 0
theorem parted {rows : List (List Nat × List Nat)} {raw : List Nat} {nB short ls nD ec : Nat} (hn : rows.length = nB) (hls : ls ≤ nB) (hD : nD = short * nB + (nB - ls))
    (h1 : ∀ (j : Nat) (r : List Nat × List Nat), rows[j]? = some r → r.1.length = (if ls ≤ j then short + 1 else short) ∧ r.2.length = ec)
    (hraw : raw = ilv (rows.map (·.1)) (if ls < nB then short + 1 else short) ++ ilv (rows.map (·.2)) ec) (j : Nat) (r : List Nat × List Nat) (hr : rows[j]? = some r) :
    (List.range (r.1.length + ec)).map (cwAt raw nB short ls nD j) = r.1 ++ r.2 := by
  have hj : j < rows.length := by
    rcases Nat.lt_or_ge j rows.length with h | h
    · exact h
    · rw [List.getElem?_eq_none h] at hr; cases hr
  have hmem : ∀ r ∈ rows, (short ≤ r.1.length ∧ r.2.length = ec) := by
    intro r hr
    obtain ⟨i, hi, e⟩ := List.mem_iff_getElem.1 hr
    have := h1 i r (by rw [List.getElem?_eq_getElem hi, e])
    refine ⟨?_, this.2⟩
    rw [this.1]; split <;> omega
  have hD1 := ilv_at (rows.map (·.1)) short (fun x hx => by obtain ⟨r, hr, rfl⟩ := List.mem_map.1 hx; exact (hmem r hr).1)
  have hL1 := ilv_at (rows.map (·.2)) ec (fun x hx => by obtain ⟨r, hr, rfl⟩ := List.mem_map.1 hx; exact Nat.le_of_eq (hmem r hr).2.symm)
  rw [List.length_map, hn] at hD1 hL1
  -- the last column of the data
  have hcol : colOf (rows.map (·.1)) short = (rows.drop ls).map fun r => r.1.getD short 0 := by
    have e : rows.map (·.1) = (rows.take ls).map (·.1) ++ (rows.drop ls).map (·.1) := by rw [← List.map_append, List.take_append_drop]
    rw [e, colOf_append, colOf_none, List.nil_append, colOf_full, List.map_map]
    · rfl
    · intro x hx
      obtain ⟨r, hr, rfl⟩ := List.mem_map.1 hx
      obtain ⟨i, hi, e⟩ := List.mem_iff_getElem.1 hr
      rw [List.getElem_drop] at e
      rw [List.length_drop] at hi
      have := h1 (ls + i) r (by rw [List.getElem?_eq_getElem (by omega), e])
      rw [this.1, if_pos (by omega)]; omega
    · intro x hx
      obtain ⟨r, hr, rfl⟩ := List.mem_map.1 hx
      obtain ⟨i, hi, e⟩ := List.mem_iff_getElem.1 hr
      rw [List.getElem_take] at e
      rw [List.length_take] at hi
      have := h1 i r (by rw [List.getElem?_eq_getElem (by omega), e])
      rw [this.1, if_neg (by omega)]; omega
  have hdata : ilv (rows.map (·.1)) (if ls < nB then short + 1 else short) = ilv (rows.map (·.1)) short ++ (rows.drop ls).map fun r => r.1.getD short 0 := by
    split
    · show ilv (rows.map (·.1)) short ++ colOf (rows.map (·.1)) short = _
      rw [hcol]
    · rw [List.drop_of_length_le (by omega), List.map_nil, List.append_nil]
  have hlen : (ilv (rows.map (·.1)) (if ls < nB then short + 1 else short)).length = nD := by rw [hdata, List.length_append, hD1.1, List.length_map, List.length_drop, hn, hD]
  have hrj1 : (rows.map (·.1)).getD j [] = r.1 := by rw [List.getD_eq_getElem?_getD, List.getElem?_map, hr]; rfl
  have hrj2 : (rows.map (·.2)).getD j [] = r.2 := by rw [List.getD_eq_getElem?_getD, List.getElem?_map, hr]; rfl
  have hl := h1 j r hr
  have key : ∀ i, i < r.1.length + ec → cwAt raw nB short ls nD j i = (r.1 ++ r.2).getD i 0 := by
    intro i hi
    unfold cwAt
    by_cases a1 : i < short
    · rw [if_pos a1, getD_left (a := r.1) (by have := (hmem r (List.mem_of_getElem? hr)).1; omega), hraw, getD_left, hdata, getD_left, hD1.2 i j a1 (by omega), hrj1]
      · rw [hD1.1]; have := Nat.mul_le_mul_right nB (show i + 1 ≤ short by omega); rw [Nat.succ_mul] at this; omega
      · rw [hlen, hD]; have := Nat.mul_le_mul_right nB (show i + 1 ≤ short by omega); rw [Nat.succ_mul] at this; omega
    · rw [if_neg a1]
      by_cases a2 : i = short ∧ ls ≤ j
      · obtain ⟨rfl, a3⟩ := a2
        rw [if_pos ⟨rfl, a3⟩, getD_left (a := r.1) (by rw [hl.1, if_pos a3]; omega), hraw, getD_left, hdata, getD_right, hD1.1, Nat.add_sub_cancel_left]
        · rw [List.getD_eq_getElem?_getD, List.getElem?_map, List.getElem?_drop, show ls + (j - ls) = j from by omega, hr]; rfl
        · rw [hD1.1]; omega
        · rw [hlen, hD]; omega
      · rw [if_neg a2, ← hl.1, getD_right (a := r.1)]
        · have hti : i - r.1.length < ec := by
            have : r.1.length ≤ i := by rw [hl.1]; split <;> omega
            omega
          rw [hraw, getD_right (by rw [hlen]; omega), hlen, show nD + (i - r.1.length) * nB + j - nD = (i - r.1.length) * nB + j from by omega, hL1.2 _ j hti (by omega), hrj2]
        · rw [hl.1]; split <;> omega
  apply List.ext_getElem
  · rw [List.length_map, List.length_range, List.length_append, hl.2]
  · intro i hi1 hi2
    rw [List.getElem_map, List.getElem_range, key i (by rw [List.length_map, List.length_range] at hi1; exact hi1), List.getD_eq_getElem?_getD, List.getElem?_eq_getElem hi2]; rfl
end
end Go.Proofs.YtplpafbkalkchaaGreatDoor
