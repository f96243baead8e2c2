/- Walks over BitArray: what each method makes of a list of bits. Walks over BitArray, the rest: one bit, another array, bytes, exclusive or. Walks over BitArray: AppendBitArray, ToBytes, Xor. -/
import Derived.Test.YtplpafbkalkchaaGreatDoorW01
namespace Go.Proofs.YtplpafbkalkchaaGreatDoor
open Go Go.RowKit Go.Proofs
set_option linter.all false

section
/-- The bit at place i of words of 32 bits, the lowest one first. -/
def bitOf (ws : List Nat) (i : Nat) : Bool := (ws.getD (i / 32) 0).testBit (i % 32)
def u32c (x : Nat) : Value := .int .u32 (x : Int)
structure BA (w : World) (B C : Nat) (ws : List Nat) (bs : List Bool) : Prop where
  st : Blk w B [slv C ws.length ws.length, .int .i64 bs.length] 193
  ar : Blk w C (ws.map u32c) 151
  ne : B ≠ C
  lt : ∀ x ∈ ws, x < 4294967296
  big : bs.length ≤ 32 * ws.length
  bit : ∀ i, bitOf ws i = bs.getD i false
  few : ws.length ≤ 1900
theorem makeArray_c (n : Nat) (w : World) (hn : n ≤ 60000) :
   Calls Tryz.prog 101 #[.int .i64 (n : Int)] w fun e w' =>
     e = .returned (slv w.heap.size ((n + 31) / 32) ((n+31)/32)) ∧ Blk w' w.heap.size (List.replicate ((n+31)/32) (u32c 0)) 151 ∧ Kept [] w w' ∧ w'.heap.size = w.heap.size + 1 := by
  have hmk := mk_u32s (((n : Int) + 31) / 32) (((n : Int) + 31) / 32) ((n+31)/32) ((n+31)/32) (by omega) (by omega) (by omega) (by omega)
  go_enter Tryz.func101, Tryz.ntmps101
  go_wp2
  go_ret
  refine ⟨rfl, ?_, (Kept.refl _ _).alloc _, by simp⟩
  have h := Blk.new w (List.replicate ((n+31)/32) (u32c 0)) 151
  rw [show (List.replicate ((n+31)/32) (u32c 0)).toArray = Array.replicate ((n+31)/32) (u32c 0) from by simp] at h
  exact h
theorem NewEmpty_c (w : World) :
   Calls Tryz.prog 41 #[] w fun e w' => e = .returned (ptv (w.heap.size + 1)) ∧ BA w' (w.heap.size + 1) w.heap.size [0] [] ∧ Kept [] w w' ∧ w'.heap.size = w.heap.size + 2 := by
  go_enter Tryz.func41, Tryz.ntmps41
  go_wp2_with fail
  refine (makeArray_c 1 w (by omega)).mono ?_
  rintro e w1 ⟨rfl, hb1, hk1, hs1⟩
  go_wp2_with fail
  go_ret
  refine ⟨rfl, ⟨?_, hb1.alloc _, by omega, by simp, by simp, fun i => ?_, by simp⟩, hk1.alloc _, by simp; omega⟩
  · rw [← hs1]; exact Blk.new w1 [slv w.heap.size 1 1, .int .i64 0] 193
  · unfold bitOf
    cases i / 32 <;> simp
theorem getSize_c (w : World) (B C : Nat) (ws : List Nat) (bs : List Bool) (h : BA w B C ws bs) :
   Calls Tryz.prog 110 #[ptv B] w fun e w' => e = .returned (.int .i64 bs.length) ∧ w = w' := by
  have h1 := h.st.at (i := 1) rfl
  clear h
  go_enter Tryz.func110, Tryz.ntmps110
  go_wp2
  go_ret
  exact ⟨rfl, rfl⟩
/-- What a method leaves of an array: the bits bs', in its own block or in a new one; nothing else has turned. -/
def BAto (B C L : Nat) (bs' : List Bool) (room : Nat) (w w' : World) : Prop :=
  ∃ C' ws', BA w' B C' ws' bs' ∧ room ≤ 32 * ws'.length ∧ Kept [B, C] w w' ∧ (C' = C ∨ w.heap.size ≤ C') ∧ ws'.length ≤ max L ((max bs'.length room + 31) / 32)
set_option maxRecDepth 100000 in
set_option maxHeartbeats 400000 in
theorem ensure_c (w : World) (B C : Nat) (ws : List Nat) (bs : List Bool) (h : BA w B C ws bs) (x : Int) (n : Nat) (hx : x = n) (hn : n ≤ 60000) :
   Calls Tryz.prog 113 #[ptv B, .int .i64 x] w fun e w' => e = .returned (.tuple #[]) ∧ BAto B C ws.length bs n w w' := by
  subst hx
  have h0 := h.st.at (i := 0) rfl
  have hf := h.few
  by_cases hc : n ≤ 32 * ws.length
  · have hfin : BAto B C ws.length bs n w w := ⟨C, ws, h, hc, Kept.refl _ _, .inl rfl, by omega⟩
    have HF := Lib.hid hfin
    clear hfin h
    go_enter Tryz.func113, Tryz.ntmps113
    go_wp2_with fail
    go_end0
    exact ⟨rfl, HF.out⟩
  · have hB := h.st.lt
    have hC := h.ar.lt
    have hlen : (ws.map u32c).length = ws.length := by simp
    have HM := Lib.hid (show ws.length = Nat.min ws.length ((n + 31) / 32) from (Nat.min_eq_left (by omega)).symm)
    go_enter Tryz.func113, Tryz.ntmps113
    go_wp2_with fail
    refine (makeArray_c n w hn).mono ?_
    rintro e w2 ⟨rfl, hb2, hk2, hs2⟩
    have HS := Lib.hid hs2; clear hs2
    obtain ⟨w3, hcp, hb3, hk3⟩ := run_copy_blk (P := Tryz.prog) (sT := 148) (ty := 3) Tryz.underlying148 (by kernel_rfl) hb2 (hk2.blk h.ar (by simp)) 0 0 ((n+31)/32) ((n+31)/32) ws.length ws.length ws.length HM.out
      (by simp; omega) (by simp) (by intro v hv; simp at hv; obtain ⟨a, _, rfl⟩ := hv; rfl)
    have hkk : Kept [] w w3 := hk2.trans hk3 (by intro x hx hl; simp at hx; omega)
    have h20 := (hk2.blk h.st (by simp)).at (i := 0) rfl
    have h00 := (hkk.blk h.st (by simp)).at (i := 0) rfl
    have h01 := (hkk.blk h.st (by simp)).free 0
    go_wp2_with fail
    go_end0
    have hws : (List.map u32c (ws ++ List.replicate ((n + 31) / 32 - ws.length) 0)) = (List.replicate ((n+31)/32) (u32c 0)).take 0 ++ ((ws.map u32c).drop 0).take ws.length ++ (List.replicate ((n+31)/32) (u32c 0)).drop (0 + ws.length) := by
      simp [List.take_of_length_le]
    have hwl : (ws ++ List.replicate ((n + 31) / 32 - ws.length) 0).length = (n + 31) / 32 := by simp; omega
    rw [← hws] at hb3
    refine ⟨rfl, w.heap.size, ws ++ List.replicate ((n + 31) / 32 - ws.length) 0, ⟨?_, ?_, by omega, ?_, by have := h.big; omega, ?_, by omega⟩, by omega, (hkk.mono (by simp)).setCell (by simp) _, .inr (Nat.le_refl _), by omega⟩
    · rw [hwl]; exact (hkk.blk h.st (by simp)).set 0 _
    · exact hb3.set_other (by simp; omega) _
    · intro x hx; simp at hx; rcases hx with hx | hx
      · exact h.lt x hx
      · omega
    · intro i
      rw [← h.bit i]
      unfold bitOf
      by_cases hi : i / 32 < ws.length
      · simp [List.getElem?_append_left, hi]
      · have e1 : (ws ++ List.replicate ((n + 31) / 32 - ws.length) 0).getD (i / 32) 0 = 0 := by
          rw [List.getD_eq_getElem?_getD, List.getElem?_append_right (by omega), List.getElem?_replicate]
          split <;> rfl
        have e2 : ws.getD (i / 32) 0 = 0 := by
          rw [List.getD_eq_getElem?_getD, List.getElem?_eq_none (by omega)]; rfl
        rw [e1, e2]
def setBit (ws : List Nat) (i : Nat) : List Nat := ws.set (i / 32) (ws.getD (i / 32) 0 ||| 2 ^ (i % 32))
theorem setBit_length (ws : List Nat) (i : Nat) : (setBit ws i).length = ws.length := by simp [setBit]
theorem setBit_bit (ws : List Nat) (i : Nat) (hi : i / 32 < ws.length) (j : Nat) : bitOf (setBit ws i) j = (bitOf ws j || decide (j = i)) := by
  unfold bitOf setBit
  by_cases h : i / 32 = j / 32
  · have e : (ws.set (i / 32) (ws.getD (i / 32) 0 ||| 2 ^ (i % 32))).getD (j / 32) 0 = ws.getD (j / 32) 0 ||| 2 ^ (i % 32) := by
      rw [← h, List.getD_eq_getElem?_getD, List.getElem?_set_self hi]; rfl
    rw [e, Nat.testBit_or, Nat.testBit_two_pow]
    congr 1
    rw [decide_eq_decide]; omega
  · have e : (ws.set (i / 32) (ws.getD (i / 32) 0 ||| 2 ^ (i % 32))).getD (j / 32) 0 = ws.getD (j / 32) 0 := by
      rw [List.getD_eq_getElem?_getD, List.getElem?_set_ne h, ← List.getD_eq_getElem?_getD]
    rw [e]
    have : decide (j = i) = false := by rw [decide_eq_false_iff_not]; intro hj; exact h (by rw [hj])
    rw [this, Bool.or_false]
theorem setBit_lt (ws : List Nat) (i : Nat) (h : ∀ x ∈ ws, x < 4294967296) : ∀ x ∈ setBit ws i, x < 4294967296 := by
  intro x hx
  unfold setBit at hx
  rcases List.mem_or_eq_of_mem_set hx with hx | rfl
  · exact h x hx
  · have h1 : ws.getD (i / 32) 0 < 2 ^ 32 := by
      by_cases hi : i / 32 < ws.length
      · rw [List.getD_eq_getElem?_getD, List.getElem?_eq_getElem hi]; exact h _ (List.getElem_mem hi)
      · rw [List.getD_eq_getElem?_getD, List.getElem?_eq_none (by omega)]; decide
    have h2 : 2 ^ (i % 32) < 2 ^ 32 := Nat.pow_lt_pow_right (by omega) (by omega)
    exact Nat.or_lt_two_pow h1 h2
theorem i64_and_nat (a b : Nat) (ha : a < 4611686018427387904) (hb : b < 4611686018427387904) : bits .and .i64 (a : Int) (b : Int) = ((a &&& b : Nat) : Int) :=
  (bits_nat .i64 62 (by decide) (fun n h0 h1 => by rw [IntKind.wrap_i64]; omega) a b ha hb).1
theorem i64_or_nat (a b : Nat) (ha : a < 4611686018427387904) (hb : b < 4611686018427387904) : bits .or .i64 (a : Int) (b : Int) = ((a ||| b : Nat) : Int) :=
  (bits_nat .i64 62 (by decide) (fun n h0 h1 => by rw [IntKind.wrap_i64]; omega) a b ha hb).2
theorem two_pow_lt (m : Nat) (hm : m < 32) : 2 ^ m < 4294967296 :=
  Nat.lt_of_lt_of_le (Nat.pow_lt_pow_right (by decide) hm) (by decide)
theorem i64_testbit (v m : Nat) (hv : v < 2147483648) (hm : m < 32) : (bits .and .i64 (v : Int) (wrap64 (2 ^ m)) != 0) = v.testBit m := by
  have h2 := two_pow_lt m hm
  have hp : 0 < 2 ^ m := Nat.pow_pos (by decide)
  have e : wrap64 (2 ^ m) = ((2 ^ m : Nat) : Int) := by
    have : ((2 : Int) ^ m) = ((2 ^ m : Nat) : Int) := by rw [Int.natCast_pow]; rfl
    rw [this]; generalize 2 ^ m = y at h2; unfold wrap64; omega
  rw [e, i64_and_nat v _ (by omega) (Nat.lt_of_lt_of_le h2 (by decide)), nat_bit, Nat.testBit_eq_decide_div_mod_eq]
  rcases Nat.mod_two_eq_zero_or_one (v / 2 ^ m) with h | h <;> rw [h]
  · simp
  · have h3 : ((1 * 2 ^ m : Nat) : Int) ≠ 0 := by generalize 2 ^ m = y at hp; omega
    simp only [decide_true]
    rw [bne_iff_ne]; exact h3
theorem i64_and31 (p : Nat) (hp : p < 4611686018427387904) : bits .and .i64 (p : Int) 31 = ((p % 32 : Nat) : Int) := by
  have h := i64_and_nat p 31 hp (by decide)
  rw [nat_mask5] at h; exact h
theorem u32_setbit (x n : Nat) (hx : x < 4294967296) : bits .or .u32 (x : Int) (2 ^ (n % 32) % 4294967296) = ((x ||| 2 ^ (n % 32) : Nat) : Int) := by
  have h2 := two_pow_lt (n % 32) (Nat.mod_lt _ (by decide))
  have e : ((2 : Int) ^ (n % 32)) = ((2 ^ (n % 32) : Nat) : Int) := by rw [Int.natCast_pow]; rfl
  rw [e]
  generalize 2 ^ (n % 32) = y at h2
  rw [Int.emod_eq_of_lt (by omega) (by omega), u32_or_nat x _ hx h2]
theorem wrap_div32 (p : Nat) (hp : p < 4611686018427387904) : IntKind.i64.wrap ((p : Int) / 32) = ((p / 32 : Nat) : Int) := by
  rw [IntKind.wrap_i64]; omega
/-- The j highest ones of the k lowest bits of a number, the highest one first. -/
def vbits (v k j : Nat) : List Bool := (List.range j).map fun t => v.testBit (k - 1 - t)
theorem getD_lt {ws : List Nat} (h : ∀ x ∈ ws, x < 4294967296) (i : Nat) : ws.getD i 0 < 4294967296 := by
  by_cases hi : i < ws.length
  · rw [List.getD_eq_getElem?_getD, List.getElem?_eq_getElem hi]; exact h _ (List.getElem_mem hi)
  · rw [List.getD_eq_getElem?_getD, List.getElem?_eq_none (by omega)]; decide
theorem vbits_length (v k j : Nat) : (vbits v k j).length = j := by simp [vbits]
theorem vbits_succ (v k j : Nat) : vbits v k (j + 1) = vbits v k j ++ [v.testBit (k - 1 - j)] := by
  unfold vbits; rw [List.range_succ, List.map_append]; rfl
theorem getD_snoc_false (bs : List Bool) (i : Nat) : (bs ++ [false]).getD i false = bs.getD i false := by
  rw [List.getD_eq_getElem?_getD, List.getD_eq_getElem?_getD, List.getElem?_append]
  split
  · rfl
  · rename_i h
    rw [List.getElem?_eq_none (by omega : bs.length ≤ i)]
    rcases i - bs.length with _ | n <;> simp
theorem getD_snoc_true (bs : List Bool) (i : Nat) : (bs ++ [true]).getD i false = (bs.getD i false || decide (i = bs.length)) := by
  rw [List.getD_eq_getElem?_getD, List.getD_eq_getElem?_getD, List.getElem?_append]
  split
  · rename_i h
    have : decide (i = bs.length) = false := by rw [decide_eq_false_iff_not]; omega
    rw [this, Bool.or_false]
  · rename_i h
    rw [List.getElem?_eq_none (by omega : bs.length ≤ i)]
    by_cases e : i = bs.length
    · subst e; simp
    · have : ∃ m, i - bs.length = m + 1 := ⟨i - bs.length - 1, by omega⟩
      obtain ⟨m, hm⟩ := this
      rw [hm]; simp [e]
structure WA (w : World) (C : Nat) (ws : List Nat) (n : Nat) (bs : List Bool) : Prop where
  ar : Blk w C (ws.map u32c) 151
  len : ws.length = n
  lt : ∀ x ∈ ws, x < 4294967296
  bit : ∀ i, bitOf ws i = bs.getD i false
theorem WA.set {w : World} {C : Nat} {ws : List Nat} {n : Nat} {bs : List Bool} (h : WA w C ws n bs) (p : Nat) (hp : p = bs.length) (hn : p / 32 < n) :
    WA (w.setCell ⟨C, p / 32, none⟩ (.int .u32 ((ws.getD (p / 32) 0 ||| 2 ^ (p % 32) : Nat) : Int))) C (setBit ws p) n (bs ++ [true]) := by
  refine ⟨?_, by rw [setBit_length]; exact h.len, setBit_lt ws p h.lt, fun i => ?_⟩
  · have := h.ar.set (p / 32) (.int .u32 ((ws.getD (p / 32) 0 ||| 2 ^ (p % 32) : Nat) : Int))
    unfold setBit; rw [List.map_set]; exact this
  · rw [setBit_bit ws p (by rw [h.len]; exact hn), getD_snoc_true, h.bit, hp]
set_option maxRecDepth 100000 in
set_option maxHeartbeats 400000 in
theorem appendBits_c (w : World) (B C : Nat) (ws : List Nat) (bs : List Bool) (h : BA w B C ws bs) (v k : Nat) (hv : v < 2147483648) (hk : k ≤ 32) (hr : bs.length ≤ 50000) :
   Calls Tryz.prog 103 #[ptv B, .int .i64 (v : Int), .int .i64 (k : Int)] w fun e w' => e = .returned .nilIface ∧ BAto B C ws.length (bs ++ vbits v k k) 0 w w' := by
  have h1 := h.st.at (i := 1) rfl
  have hk0 : (0 : Int) ≤ k := by omega
  have hk9 : (k : Int) ≤ 32 := by omega
  have hl0 : (bs.length : Int) ≤ 50000 := by omega
  go_enter Tryz.func103, Tryz.ntmps103
  go_wp2_with fail
  refine (ensure_c w B C ws bs h _ (bs.length + k) (by omega) (by omega)).mono ?_
  rintro e w1 ⟨rfl, hto⟩
  obtain ⟨C1, ws1, hb1, hroom, hk1, hC1, htop⟩ := hto
  have HT := Lib.hid htop; clear htop
  have hB1 := hb1.st.at (i := 0) rfl
  have hB11 := hb1.st.at (i := 1) rfl
  go_wp2_with fail
  go_loopw [7, 8] (fun a b wr => ∃ p j wsj, p = bs.length + j ∧ j ≤ k ∧ a = .int .i64 (p : Int) ∧ b = .int .i64 ((k : Int) - 1 - j) ∧ WA wr C1 wsj ws1.length (bs ++ vbits v k j) ∧ Kept [C1] w1 wr) (fun _ b _ => (intOf b + 1).toNat)
  case atStart => exact ⟨bs.length, 0, ws1, by omega, by omega, by simp, by simp, ⟨hb1.ar, rfl, hb1.lt, by simpa [vbits] using hb1.bit⟩, Kept.refl _ _⟩
  case round =>
    obtain ⟨p, j, wsj, hp, hj, rfl, rfl, hwa, hkr⟩ := hrel
    have HP := Lib.hid hp; clear hp
    have hst := hkr.blk hb1.st (by simp; exact hb1.ne)
    have g0 := hst.at (i := 0) rfl
    have g1 := hst.at (i := 1) rfl
    have g2 := hst.free 1
    by_cases hjk : j < k
    · have hpl : p / 32 < ws1.length := by have := HP.out; omega
      have hpi : (p : Int) ≤ 60000 := by have := HP.out; omega
      obtain ⟨x, hx⟩ : ∃ x, x = wsj.getD (p / 32) 0 := ⟨_, rfl⟩
      have HX := Lib.hid hx
      have hxl : x < 4294967296 := by rw [hx]; exact getD_lt hwa.lt _
      have g3 := hwa.ar.at (i := p / 32) (v := .int .u32 (x : Int)) (by have := hwa.len; rw [hx, List.getElem?_map, List.getD_eq_getElem?_getD, List.getElem?_eq_getElem (by omega)]; rfl)
      have g4 := hwa.ar.free (p / 32)
      clear hx
      have ht := i64_testbit v (k - 1 - j) hv (by omega)
      have hw1 := wrap_div32 p (by omega)
      have hw2 := i64_and31 p (by omega)
      have hw3 := u32_setbit x p hxl
      by_cases hb : v.testBit (k - 1 - j)
      · rw [hb] at ht
        go_wp2_with fail
        go_region
        all_goals
          go_wp2_with fail
          go_roundw
          case rel =>
            refine ⟨p + 1, j + 1, setBit wsj p, by have := HP.out; omega, by omega, by go_num, by go_num, ?_, ?_⟩
            · rw [vbits_succ, hb, ← List.append_assoc]
              have := hwa.set p (by rw [List.length_append, vbits_length]; exact HP.out) hpl
              rw [← HX.out] at this
              exact ⟨this.ar, this.len, this.lt, this.bit⟩
            · exact (hkr.setCell (by simp) _).drew
          case measure => simp [intOf]; omega
      · rw [Bool.not_eq_true] at hb
        rw [hb] at ht
        go_wp2_with fail
        go_roundw
        case rel =>
          refine ⟨p + 1, j + 1, wsj, by have := HP.out; omega, by omega, by go_num, by go_num, ?_, hkr⟩
          rw [vbits_succ, hb, ← List.append_assoc]
          exact ⟨hwa.ar, hwa.len, hwa.lt, fun i => by rw [getD_snoc_false]; exact hwa.bit i⟩
        case measure => simp [intOf]; omega
    · obtain rfl : j = k := by omega
      have HF : Hid (BAto B C ws.length (bs ++ vbits v j j) 0 w (wr.setCell ⟨B, 1, none⟩ (.int .i64 (p : Int)))) := by
        have hp' := HP.out
        refine ⟨C1, wsj, ⟨?_, hwa.ar.set_other (by simp; exact hb1.ne) _, hb1.ne, hwa.lt, ?_, hwa.bit, by have := hwa.len; have := hb1.few; omega⟩, by omega, ?_, hC1, by have := HT.out; rw [hwa.len, List.length_append, vbits_length]; omega⟩
        · rw [hwa.len, List.length_append, vbits_length, ← hp']; exact hst.set 1 _
        · rw [List.length_append, vbits_length, hwa.len]; exact hroom
        · refine (hk1.trans hkr ?_).setCell (by simp) _
          intro y hy hl; simp at hy; subst hy
          rcases hC1 with h' | h'
          · simp [h']
          · omega
      go_wp2_with fail
      go_ret
      exact ⟨rfl, HF.out⟩
end

section
theorem BA.kept {w w' : World} {B C : Nat} {ws : List Nat} {bs : List Bool} {S : List Nat} (h : BA w B C ws bs) (hk : Kept S w w') (h1 : B ∉ S) (h2 : C ∉ S) : BA w' B C ws bs :=
  ⟨hk.blk h.st h1, hk.blk h.ar h2, h.ne, h.lt, h.big, h.bit, h.few⟩
theorem BA.cellw {w : World} {B C : Nat} {ws : List Nat} {bs : List Bool} (h : BA w B C ws bs) (p : Nat) (hp : p / 32 < ws.length) (x : Nat) (hx : x = ws.getD (p / 32) 0) :
    w.cell? ⟨C, p / 32, none⟩ = some (.int .u32 (x : Int)) :=
  h.ar.at (by rw [hx, List.getElem?_map, List.getD_eq_getElem?_getD, List.getElem?_eq_getElem hp]; rfl)
theorem u32_getbit (x n : Nat) (hx : x < 4294967296) : (bits .and .u32 (x : Int) (2 ^ (n % 32) % 4294967296) != 0) = x.testBit (n % 32) := by
  have h2 := two_pow_lt (n % 32) (Nat.mod_lt _ (by decide))
  have hp : 0 < 2 ^ (n % 32) := Nat.pow_pos (by decide)
  have e : ((2 : Int) ^ (n % 32)) = ((2 ^ (n % 32) : Nat) : Int) := by rw [Int.natCast_pow]; rfl
  have e2 : (2 : Int) ^ (n % 32) % 4294967296 = ((2 ^ (n % 32) : Nat) : Int) := by
    rw [e]; generalize 2 ^ (n % 32) = y at h2; exact Int.emod_eq_of_lt (by omega) (by omega)
  rw [e2, u32_and_nat x _ hx h2, nat_bit, Nat.testBit_eq_decide_div_mod_eq]
  rcases Nat.mod_two_eq_zero_or_one (x / 2 ^ (n % 32)) with h | h <;> rw [h]
  · simp
  · have h3 : ((1 * 2 ^ (n % 32) : Nat) : Int) ≠ 0 := by generalize 2 ^ (n % 32) = y at hp; omega
    simp only [decide_true]
    rw [bne_iff_ne]; exact h3
set_option maxRecDepth 100000 in
theorem get_c (w : World) (B C : Nat) (ws : List Nat) (bs : List Bool) (h : BA w B C ws bs) (x : Int) (i : Nat) (hx : x = i) (hi : i < bs.length) (b : Bool) (hbb : bs.getD i false = b) :
   Calls Tryz.prog 115 #[ptv B, .int .i64 x] w fun e w' => e = .returned (.bool b) ∧ w = w' := by
  subst hx; subst hbb
  have hp : i / 32 < ws.length := by have := h.big; omega
  have hil : (i : Int) < 4611686018427387904 := by have := h.big; have := h.few; omega
  have h0 := h.st.at (i := 0) rfl
  obtain ⟨y, hy⟩ : ∃ y, y = ws.getD (i / 32) 0 := ⟨_, rfl⟩
  have h1 := h.cellw i hp y hy
  have hyl : y < 4294967296 := by rw [hy]; exact getD_lt h.lt _
  have hb : y.testBit (i % 32) = bs.getD i false := by rw [hy]; exact h.bit i
  have ht := u32_getbit y i hyl
  have HB := Lib.hid hb
  clear hb hy
  go_enter Tryz.func115, Tryz.ntmps115
  go_wp2
  go_ret
  exact ⟨ret_bool HB.out, rfl⟩
set_option maxRecDepth 100000 in
theorem sizeInBytes_c (w : World) (B C : Nat) (ws : List Nat) (bs : List Bool) (h : BA w B C ws bs) :
   Calls Tryz.prog 51 #[ptv B] w fun e w' => e = .returned (.int .i64 (((bs.length + 7) / 8 : Nat) : Int)) ∧ w = w' := by
  have h1 := h.st.at (i := 1) rfl
  have hl : (bs.length : Int) ≤ 60800 := by have := h.big; have := h.few; omega
  clear h
  go_enter Tryz.func51, Tryz.ntmps51
  go_wp2
  go_ret
  exact ⟨ret_int (by omega), rfl⟩
set_option maxRecDepth 100000 in
set_option maxHeartbeats 400000 in
theorem appendBit_c (w : World) (B C : Nat) (ws : List Nat) (bs : List Bool) (h : BA w B C ws bs) (b : Bool) (hr : bs.length ≤ 50000) :
   Calls Tryz.prog 114 #[ptv B, .bool b] w fun e w' => e = .returned (.tuple #[]) ∧ BAto B C ws.length (bs ++ [b]) 0 w w' := by
  have h1 := h.st.at (i := 1) rfl
  have hl0 : (bs.length : Int) ≤ 50000 := by omega
  have hw1 := wrap_div32 bs.length (by omega)
  have hw4 : IntKind.i64.wrap ((bs.length : Int) % 32) = ((bs.length % 32 : Nat) : Int) := by rw [IntKind.wrap_i64]; omega
  go_enter Tryz.func114, Tryz.ntmps114
  go_wp2_with fail
  refine (ensure_c w B C ws bs h _ (bs.length + 1) (by omega) (by omega)).mono ?_
  rintro e w1 ⟨rfl, hto⟩
  obtain ⟨C1, ws1, hb1, hroom, hk1, hC1, htop⟩ := hto
  have HT := Lib.hid htop; clear htop
  have g0 := hb1.st.at (i := 0) rfl
  have g1 := hb1.st.at (i := 1) rfl
  have g2 := hb1.st.free 1
  have hpl : bs.length / 32 < ws1.length := by omega
  cases b
  · have HF : Hid (BAto B C ws.length (bs ++ [false]) 0 w (w1.setCell ⟨B, 1, none⟩ (.int .i64 ((bs.length : Int) + 1)))) := by
      refine ⟨C1, ws1, ⟨?_, hb1.ar.set_other (by simp; exact hb1.ne) _, hb1.ne, hb1.lt, by simp; omega, fun i => by rw [getD_snoc_false]; exact hb1.bit i, hb1.few⟩, by omega, hk1.setCell (by simp) _, hC1, by have := HT.out; simp; omega⟩
      have := hb1.st.set 1 (.int .i64 ((bs.length : Int) + 1))
      simpa using this
    go_wp2_with fail
    go_end0
    exact ⟨rfl, HF.out⟩
  · obtain ⟨x, hx⟩ : ∃ x, x = ws1.getD (bs.length / 32) 0 := ⟨_, rfl⟩
    have hxl : x < 4294967296 := by rw [hx]; exact getD_lt hb1.lt _
    have g3 := hb1.cellw bs.length hpl x hx
    have g4 := hb1.ar.free (bs.length / 32)
    have hw3 := u32_setbit x bs.length hxl
    have HF : Hid (BAto B C ws.length (bs ++ [true]) 0 w (((w1.setCell ⟨C1, bs.length / 32, none⟩ (.int .u32 ((x ||| 2 ^ (bs.length % 32) : Nat) : Int))).setCell ⟨B, 1, none⟩ (.int .i64 ((bs.length : Int) + 1))).drew)) := by
      have hwa : WA w1 C1 ws1 ws1.length bs := ⟨hb1.ar, rfl, hb1.lt, hb1.bit⟩
      have hs := hwa.set bs.length rfl hpl
      rw [← hx] at hs
      refine ⟨C1, setBit ws1 bs.length, ⟨?_, (hs.ar.set_other (by simp; exact hb1.ne) _).drew, hb1.ne, hs.lt, by rw [hs.len]; simp; omega, hs.bit, by rw [hs.len]; exact hb1.few⟩, by omega, ?_, hC1, by have := HT.out; rw [hs.len]; simp; omega⟩
      · have := (hb1.st.set_other (a := ⟨C1, bs.length / 32, none⟩) (by simp; exact fun h => hb1.ne h.symm) (.int .u32 ((x ||| 2 ^ (bs.length % 32) : Nat) : Int))).set 1 (.int .i64 ((bs.length : Int) + 1))
        rw [hs.len]
        simpa using this.drew
      · refine ((hk1.setCell (p := ⟨C1, _, none⟩) ?_ _).setCell (by simp) _).drew
        rcases hC1 with h' | h'
        · simp [h']
        · exact .inr h'
    clear hx
    have hne := hb1.ne
    have hne' : ¬ C1 = B := fun h => hne h.symm
    have hne'' : ¬ B = C1 := hne
    go_wp2_with fail
    go_region
    all_goals
      go_wp2_with fail
      go_end0
      exact ⟨rfl, HF.out⟩
end

section
theorem take_snoc_getD (os : List Bool) (j : Nat) (hj : j < os.length) : os.take (j + 1) = os.take j ++ [os.getD j false] := by
  rw [List.take_succ_eq_append_getElem hj, List.getD_eq_getElem?_getD, List.getElem?_eq_getElem hj]; rfl
set_option maxRecDepth 100000 in
set_option maxHeartbeats 400000 in
theorem appendArray_c (w : World) (B C B2 C2 : Nat) (ws ws2 : List Nat) (bs os : List Bool) (h : BA w B C ws bs) (h2 : BA w B2 C2 ws2 os)
    (n1 : B2 ≠ B) (n2 : C2 ≠ B) (n3 : B2 ≠ C) (n4 : C2 ≠ C) (hr : bs.length + os.length ≤ 50000) :
   Calls Tryz.prog 50 #[ptv B, ptv B2] w fun e w' => e = .returned (.tuple #[]) ∧ BAto B C ws.length (bs ++ os) 0 w w' := by
  have a1 := h.st.at (i := 1) rfl
  have a2 := h2.st.at (i := 1) rfl
  have hl0 : (bs.length : Int) ≤ 50000 := by omega
  have hl1 : (os.length : Int) ≤ 50000 := by omega
  have hB2 := h2.st.lt
  have hC2 := h2.ar.lt
  go_enter Tryz.func50, Tryz.ntmps50
  go_wp2_with fail
  refine (ensure_c w B C ws bs h _ (bs.length + os.length) (by omega) (by omega)).mono ?_
  rintro e w1 ⟨rfl, hto⟩
  obtain ⟨C1, ws1, hb1, hroom, hk1, hC1, htop⟩ := hto
  go_wp2_with fail
  go_loopw [5] (fun a wr => ∃ j Cj wsj, j ≤ os.length ∧ a = .int .i64 (j : Int) ∧ BA wr B Cj wsj (bs ++ os.take j) ∧ Kept [B, C] w wr ∧ (Cj = C ∨ w.heap.size ≤ Cj) ∧ wsj.length ≤ max ws.length ((max bs.length (bs.length + os.length) + 31) / 32)) (fun a _ => os.length - (intOf a).toNat)
  case atStart => exact ⟨0, C1, ws1, by omega, rfl, by simpa using hb1, hk1, hC1, htop⟩
  case round =>
    obtain ⟨j, Cj, wsj, hj, rfl, hbj, hkj, hCj, htj⟩ := hrel
    have HTJ := Lib.hid htj; clear htj
    by_cases hlt : j < os.length
    · have hb2 := h2.kept hkj (by simp; exact ⟨n1, n3⟩) (by simp; exact ⟨n2, n4⟩)
      obtain ⟨y, hy⟩ : ∃ y, os.getD j false = y := ⟨_, rfl⟩
      have HY := Lib.hid hy; clear hy
      go_wp2_with fail
      with_reducible refine (get_c wr B2 C2 ws2 os hb2 _ j rfl hlt y HY.out).mono ?_
      rintro e w2 ⟨rfl, rfl⟩
      go_wp2_with fail
      with_reducible refine (appendBit_c wr B Cj wsj _ hbj y (by simp; omega)).mono ?_
      rintro e w3 ⟨rfl, hto⟩
      obtain ⟨C3, ws3, hb3, _, hk3, hC3, ht3⟩ := hto
      have HT3 := Lib.hid ht3; clear ht3
      go_wp2_with fail
      go_roundw
      case rel =>
        refine ⟨j + 1, C3, ws3, by omega, by go_num, ?_, ?_, ?_, by have h8 := HT3.out; have h9 := HTJ.out; simp at h8; omega⟩
        · rw [take_snoc_getD os j hlt, HY.out, ← List.append_assoc]; exact hb3
        · refine hkj.trans hk3 ?_
          intro x hx hl; simp at hx; rcases hx with rfl | rfl
          · simp
          · rcases hCj with rfl | h'
            · simp
            · omega
        · rcases hC3 with rfl | h'
          · exact hCj
          · exact .inr (Nat.le_trans hkj.size h')
      case measure => simp [intOf]; omega
    · obtain rfl : j = os.length := by omega
      have HF : Hid (BAto B C ws.length (bs ++ os) 0 w wr) := ⟨Cj, wsj, by simpa using hbj, by omega, hkj, hCj, by have h9 := HTJ.out; simp; omega⟩
      go_wp2_with fail
      go_end0
      exact ⟨rfl, HF.out⟩
/-- The byte whose j highest bits are those from o on. -/
def byteUpto (bs : List Bool) (o : Nat) : Nat → Nat
  | 0 => 0
  | j + 1 => if bs.getD (o + j) false then byteUpto bs o j ||| 2 ^ (7 - j) else byteUpto bs o j
theorem byteUpto_t {bs : List Bool} {o j : Nat} (h : bs.getD (o + j) false = true) : byteUpto bs o (j + 1) = byteUpto bs o j ||| 2 ^ (7 - j) := by
  conv => lhs; unfold byteUpto
  rw [if_pos h]
theorem byteUpto_f {bs : List Bool} {o j : Nat} (h : bs.getD (o + j) false = false) : byteUpto bs o (j + 1) = byteUpto bs o j := by
  conv => lhs; unfold byteUpto
  rw [if_neg (by rw [h]; decide)]
theorem byteUpto_lt (bs : List Bool) (o j : Nat) (hj : j ≤ 8) : byteUpto bs o j < 256 := by
  induction j with
  | zero => exact Nat.zero_lt_of_lt (by decide : 0 < 256)
  | succ j ih =>
    unfold byteUpto
    split
    · exact Nat.or_lt_two_pow (n := 8) (ih (by omega)) (Nat.lt_of_le_of_lt (Nat.pow_le_pow_right (by decide) (by omega : 7 - j ≤ 7)) (by decide))
    · exact ih (by omega)
theorem byteUpto_bit (bs : List Bool) (o j : Nat) (hj : j ≤ 8) (t : Nat) (ht : t < 8) : (byteUpto bs o j).testBit (7 - t) = (decide (t < j) && bs.getD (o + t) false) := by
  induction j with
  | zero => simp [byteUpto]
  | succ j ih =>
    have hi := ih (by omega)
    have hd : (7 - j = 7 - t) ↔ t = j := by omega
    unfold byteUpto
    by_cases e : t = j
    · subst e
      split
      · rename_i hb
        rw [Nat.testBit_or, Nat.testBit_two_pow_self]; simp
        simpa using hb
      · rename_i hb
        rw [hi]; simp only [Bool.not_eq_true] at hb; simp at hb ⊢; simp [hb]
    · have h3 : decide (t < j + 1) = decide (t < j) := by rw [decide_eq_decide]; omega
      rw [h3, ← hi]
      split
      · rw [Nat.testBit_or, Nat.testBit_two_pow_of_ne (by omega), Bool.or_false]
      · rfl
def byteAt (bs : List Bool) (o : Nat) : Nat := byteUpto bs o 8
def u8c (x : Nat) : Value := .int .u8 (x : Int)
/-- The bytes of bits from o on, n of them. -/
def bytesAt (bs : List Bool) (o n : Nat) : List Nat := (List.range n).map fun t => byteAt bs (o + 8 * t)
theorem u8_setbit (x m : Nat) (hx : x < 256) (hm : m < 8) : bits .or .u8 (x : Int) (2 ^ m % 256) = ((x ||| 2 ^ m : Nat) : Int) := by
  have h2 : 2 ^ m < 256 := Nat.lt_of_lt_of_le (Nat.pow_lt_pow_right (by decide) hm) (by decide)
  have e : ((2 : Int) ^ m) = ((2 ^ m : Nat) : Int) := by rw [Int.natCast_pow]; rfl
  rw [e]
  generalize 2 ^ m = y at h2
  rw [Int.emod_eq_of_lt (by omega) (by omega), u8_or_nat x _ hx h2]
set_option maxRecDepth 100000 in
set_option maxHeartbeats 1000000 in
theorem toBytes_c (w : World) (B C A : Nat) (ws : List Nat) (bs : List Bool) (h : BA w B C ws bs) (n cap : Nat) (old : List Value) (hA : Blk w A old 5) (hol : old.length = n)
    (x : Int) (o : Nat) (hx : x = o) (hr : o + 8 * n ≤ bs.length) (n1 : B ≠ A) (n2 : C ≠ A) :
   Calls Tryz.prog 117 #[ptv B, .int .i64 x, slv A n cap, .int .i64 0, .int .i64 (n : Int)] w fun e w' =>
     e = .returned (.tuple #[]) ∧ Blk w' A ((bytesAt bs o n).map u8c) 5 ∧ Kept [A] w w' := by
  subst hx
  have hbl : bs.length ≤ 60800 := by have := h.big; have := h.few; omega
  go_enter Tryz.func117, Tryz.ntmps117
  go_wp2_with fail
  go_loopw [1, 10] (fun a b wr => ∃ p j, p = o + 8 * j ∧ j ≤ n ∧ a = .int .i64 (p : Int) ∧ b = .int .i64 (j : Int) ∧ Blk wr A ((bytesAt bs o j).map u8c ++ old.drop j) 5 ∧ Kept [A] w wr) (fun _ b _ => n - (intOf b).toNat)
  case atStart => exact ⟨o, 0, by omega, by omega, rfl, rfl, by simpa [bytesAt] using hA, Kept.refl _ _⟩
  case round =>
    obtain ⟨p, j, hp, hj, rfl, rfl, hbk, hkr⟩ := hrel
    have HP := Lib.hid hp; clear hp
    have hb := h.kept hkr (by simpa using n1) (by simpa using n2)
    by_cases hlt : j < n
    · go_wp2_with fail
      obtain ⟨wo, hwo⟩ : ∃ wo : World, wo = wr := ⟨_, rfl⟩
      go_loop [1, 11, 12] (fun a t b => ∃ q k, q = p + k ∧ k ≤ 8 ∧ a = .int .i64 (q : Int) ∧ t = .int .u8 (byteUpto bs p k : Int) ∧ b = .int .i64 (k : Int)) (fun _ _ b => 8 - (intOf b).toNat)
      case atStart => exact ⟨p, 0, by omega, by omega, rfl, rfl, rfl⟩
      case round =>
        obtain ⟨q, k, hq, hk, rfl, rfl, rfl⟩ := hrel
        have hq9 : q ≤ 60801 := by have := HP.out; omega
        have HQ := Lib.hid hq; clear hq
        by_cases hk8 : k < 8
        · have hql : q < bs.length := by have := HP.out; have := HQ.out; omega
          obtain ⟨y, hy⟩ : ∃ y, y = byteUpto bs p k := ⟨_, rfl⟩
          have hyl : y < 256 := by rw [hy]; exact byteUpto_lt bs p k hk
          have HY := Lib.hid hy
          rw [← hy]
          clear hy
          have hw3 := u8_setbit y (7 - k) hyl (by omega)
          obtain ⟨z, hz⟩ : ∃ z, bs.getD q false = z := ⟨_, rfl⟩
          have HZ := Lib.hid hz; clear hz
          go_wp2_with fail
          with_reducible refine (get_c wr B C ws bs hb _ q rfl hql z HZ.out).mono ?_
          rintro e w2 ⟨rfl, rfl⟩
          cases z
          · go_wp2_with fail
            go_round
            case rel =>
              refine ⟨q + 1, k + 1, by have := HQ.out; omega, by omega, by go_num, ?_, by go_num⟩
              rw [byteUpto_f (by rw [← HQ.out]; exact HZ.out), HY.out]
            case measure => simp [intOf]; omega
          · go_wp2_with fail
            go_round
            case rel =>
              refine ⟨q + 1, k + 1, by have := HQ.out; omega, by omega, by go_num, ?_, by go_num⟩
              rw [byteUpto_t (by rw [← HQ.out]; exact HZ.out), HY.out]
            case measure => simp [intOf]; omega
        · obtain rfl : k = 8 := by omega
          have g4 := hbk.free j
          have hjl : j < (List.map u8c (bytesAt bs o j) ++ List.drop j old).length := by simp [bytesAt]; omega
          have g3 := hbk.at (i := j) (List.getElem?_eq_getElem hjl)
          go_wp2_with fail
          go_roundw
          case rel =>
            refine ⟨q, j + 1, by have := HP.out; have := HQ.out; omega, by omega, rfl, by go_num, ?_, hkr.setCell (by simp) _⟩
            have := hbk.set j (u8c (byteAt bs p))
            have e1 : (List.map u8c (bytesAt bs o j) ++ List.drop j old).set j (u8c (byteAt bs p)) = List.map u8c (bytesAt bs o (j + 1)) ++ List.drop (j + 1) old := by
              have e2 : bytesAt bs o (j + 1) = bytesAt bs o j ++ [byteAt bs p] := by unfold bytesAt; rw [List.range_succ, List.map_append, HP.out]; rfl
              have e3 : (List.map u8c (bytesAt bs o j)).length = j := by simp [bytesAt]
              rw [e2, List.map_append, List.append_assoc, List.set_append_right _ _ (by omega), e3, Nat.sub_self]
              congr 1
              rw [List.drop_eq_getElem_cons (by omega)]; rfl
            rw [e1] at this; exact this
          case measure => simp [intOf]; omega
    · obtain rfl : j = n := by omega
      have HF : Hid (Blk wr A ((bytesAt bs o j).map u8c) 5) := by
        have := hbk
        rw [List.drop_of_length_le (by omega), List.append_nil] at this; exact this
      go_wp2_with fail
      go_end0
      exact ⟨rfl, HF.out, hkr⟩
theorem u32_xor_nat' (a b : Nat) (ha : a < 4294967296) (hb : b < 4294967296) : bits .xor .u32 (a : Int) (b : Int) = ((a ^^^ b : Nat) : Int) := u32_xor_nat a b ha hb
def xorBits (bs os : List Bool) : List Bool := List.zipWith (fun a b => a != b) bs os
set_option maxRecDepth 100000 in
set_option maxHeartbeats 1000000 in
theorem xor_c (w : World) (B C B2 C2 x y : Nat) (bs os : List Bool) (h : BA w B C [x] bs) (h2 : BA w B2 C2 [y] os)
    (n2 : C2 ≠ B) (n3 : B2 ≠ C) (n4 : C2 ≠ C) (hl : bs.length = os.length) :
   Calls Tryz.prog 191 #[ptv B, ptv B2] w fun e w' => e = .returned .nilIface ∧ BA w' B C [x ^^^ y] (xorBits bs os) ∧ Kept [C] w w' := by
  have a0 := h.st.at (i := 0) rfl
  have a1 := h.st.at (i := 1) rfl
  have b0 := h2.st.at (i := 0) rfl
  have b1 := h2.st.at (i := 1) rfl
  rw [← hl] at b1
  have c0 := h.ar.at (i := 0) rfl
  have d0 := h2.ar.at (i := 0) rfl
  have f0 := h.ar.free 0
  unfold u32c at c0 d0
  have hx : x < 4294967296 := h.lt x (by simp)
  have hy : y < 4294967296 := h2.lt y (by simp)
  have hw := u32_xor_nat' x y hx hy
  have hne := h.ne
  have hne' : ¬ C = B := fun e => hne e.symm
  have HF : ∀ n, Hid (BA ((w.setCell ⟨C, 0, none⟩ (.int .u32 ((x ^^^ y : Nat) : Int))).drewN n) B C [x ^^^ y] (xorBits bs os) ∧ Kept [C] w ((w.setCell ⟨C, 0, none⟩ (.int .u32 ((x ^^^ y : Nat) : Int))).drewN n)) := by
    intro n
    have hll : (xorBits bs os).length = bs.length := by simp [xorBits, hl]
    refine ⟨⟨?_, ?_, hne, ?_, by rw [hll]; exact h.big, ?_, by simp⟩, ((Kept.refl _ _).setCell (by simp) _).drewN n⟩
    · rw [hll]; exact (h.st.set_other (by simpa using hne') _).drewN n
    · exact (h.ar.set 0 (u32c (x ^^^ y))).drewN n
    · intro z hz; simp at hz; subst hz; exact Nat.xor_lt_two_pow (n := 32) hx hy
    · intro i
      have e1 := h.bit i
      have e2 := h2.bit i
      unfold bitOf at *
      unfold xorBits
      rw [List.getD_eq_getElem?_getD (l := List.zipWith _ _ _), List.getElem?_zipWith]
      rw [List.getD_eq_getElem?_getD (l := bs)] at e1
      rw [List.getD_eq_getElem?_getD (l := os)] at e2
      have hg : ∀ z, ([z].getD (i / 32) 0) = if i / 32 = 0 then z else 0 := by intro z; rcases i / 32 with _ | n <;> simp
      rw [hg] at *
      by_cases hi : i < bs.length
      · rw [List.getElem?_eq_getElem hi] at e1 ⊢
        rw [List.getElem?_eq_getElem (by omega : i < os.length)] at e2 ⊢
        have hi0 : i / 32 = 0 := by have := h.big; simp at this; omega
        rw [if_pos hi0] at *
        rw [Nat.testBit_xor, e1, e2]; simp
      · rw [List.getElem?_eq_none (by omega : bs.length ≤ i)] at e1 ⊢
        rw [List.getElem?_eq_none (by omega : os.length ≤ i)] at e2
        split
        · rename_i hi0
          rw [if_pos hi0] at e1 e2
          rw [Nat.testBit_xor, e1, e2]; simp
        · simp
  clear hl
  go_enter Tryz.func191, Tryz.ntmps191
  go_wp2_with fail
  go_region
  go_wp2_with fail
  go_loopw [5] (fun a wr => (a = .int .i64 0 ∧ wr = w.drewN 1) ∨ (a = .int .i64 1 ∧ ∃ n, wr = (w.setCell ⟨C, 0, none⟩ (.int .u32 ((x ^^^ y : Nat) : Int))).drewN n)) (fun a _ => 1 - (intOf a).toNat)
  case atStart => exact .inl ⟨rfl, rfl⟩
  case round =>
    rcases hrel with ⟨rfl, rfl⟩ | ⟨rfl, n, rfl⟩
    · have k0 : (w.drewN 1).cell? ⟨B, 0, none⟩ = some (slv C 1 1) := a0
      have k1 : (w.drewN 1).cell? ⟨B2, 0, none⟩ = some (slv C2 1 1) := b0
      have k2 : (w.drewN 1).cell? ⟨C, 0, none⟩ = some (.int .u32 (x : Int)) := c0
      have k3 : (w.drewN 1).cell? ⟨C2, 0, none⟩ = some (.int .u32 (y : Int)) := d0
      have k4 : (w.drewN 1).frozen? ⟨C, 0, none⟩ = false := f0
      have he : ((w.drewN 1).setCell ⟨C, 0, none⟩ (.int .u32 ((x ^^^ y : Nat) : Int))).drew = (w.setCell ⟨C, 0, none⟩ (.int .u32 ((x ^^^ y : Nat) : Int))).drewN 2 := rfl
      go_wp2_with fail
      go_region
      go_wp2_with fail
      go_roundw
      case rel => exact .inr ⟨rfl, 2, rfl⟩
      case measure => simp [intOf]
    · have k0 : ((w.setCell ⟨C, 0, none⟩ (.int .u32 ((x ^^^ y : Nat) : Int))).drewN n).cell? ⟨B, 0, none⟩ = some (slv C 1 1) := by
        have := ((h.st.set_other (a := ⟨C, 0, none⟩) (by simpa using hne') (.int .u32 ((x ^^^ y : Nat) : Int))).drewN n).at (i := 0) (v := slv C 1 1) rfl
        exact this
      have HF := HF n
      generalize (w.setCell ⟨C, 0, none⟩ (.int .u32 ((x ^^^ y : Nat) : Int))).drewN n = w9 at k0 HF
      go_wp2_with fail
      go_ret
      exact ⟨rfl, HF.out⟩
end
end Go.Proofs.YtplpafbkalkchaaGreatDoor
