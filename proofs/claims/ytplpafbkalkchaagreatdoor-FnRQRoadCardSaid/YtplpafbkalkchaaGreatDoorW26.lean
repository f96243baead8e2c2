/- A matrix of bits in rows of words: what each method makes of it. Walks: a region of a matrix of bits is set; a square one is made. -/
import Derived.Test.YtplpafbkalkchaaGreatDoorW02
namespace Go.Proofs.YtplpafbkalkchaaGreatDoor
open Go Go.RowKit Go.Proofs
set_option linter.all false

section
/-- Block B is a matrix of bits of W columns and H rows, rs words a row, in block C: f y x is the bit in row y, column x. -/
structure GM (w : World) (B C W H rs : Nat) (ws : List Nat) (f : Nat → Nat → Bool) : Prop where
  st : Blk w B [.int .i64 (W : Int), .int .i64 (H : Int), .int .i64 (rs : Int), slv C (rs * H) (rs * H)] 150
  ar : Blk w C (ws.map u32c) 151
  ne : B ≠ C
  lt : ∀ x ∈ ws, x < 4294967296
  len : ws.length = rs * H
  wide : W ≤ 32 * rs
  few : rs * H ≤ 4000
  few2 : H ≤ 400
  few3 : rs ≤ 20
  bit : ∀ y x, y < H → x < 32 * rs → bitOf ws (32 * (y * rs) + x) = f y x
theorem GM.congr {w : World} {B C W H rs : Nat} {ws : List Nat} {f g : Nat → Nat → Bool} (h : GM w B C W H rs ws f) (e : ∀ y x, y < H → x < 32 * rs → f y x = g y x) : GM w B C W H rs ws g :=
  ⟨h.st, h.ar, h.ne, h.lt, h.len, h.wide, h.few, h.few2, h.few3, fun y x hy hx => (h.bit y x hy hx).trans (e y x hy hx)⟩
theorem GM.kept {w w' : World} {B C W H rs : Nat} {ws : List Nat} {f : Nat → Nat → Bool} {S : List Nat} (h : GM w B C W H rs ws f) (hk : Kept S w w') (h1 : B ∉ S) (h2 : C ∉ S) : GM w' B C W H rs ws f :=
  ⟨hk.blk h.st h1, hk.blk h.ar h2, h.ne, h.lt, h.len, h.wide, h.few, h.few2, h.few3, h.bit⟩
theorem GM.drewN {w : World} {B C W H rs : Nat} {ws : List Nat} {f : Nat → Nat → Bool} (h : GM w B C W H rs ws f) (n : Nat) : GM (w.drewN n) B C W H rs ws f := ⟨h.st, h.ar, h.ne, h.lt, h.len, h.wide, h.few, h.few2, h.few3, h.bit⟩
theorem row_lt {y H rs x : Nat} (hy : y < H) (hx : x < 32 * rs) : y * rs + x / 32 < rs * H := by
  have h1 : (y + 1) * rs ≤ H * rs := Nat.mul_le_mul_right _ hy
  rw [Nat.add_mul, Nat.one_mul] at h1
  rw [Nat.mul_comm rs H]
  omega
theorem row_cap {y H rs : Nat} (hy : y < H) : y * rs ≤ rs * H := by
  rw [Nat.mul_comm rs H]; exact Nat.mul_le_mul_right _ (by omega)
def updB (f : Nat → Nat → Bool) (y x : Nat) (b : Bool) : Nat → Nat → Bool := fun y' x' => if y' = y ∧ x' = x then b else f y' x'
theorem flat_inj {rs y x y' x' : Nat} (hx : x < 32 * rs) (hx' : x' < 32 * rs) (h : 32 * (y' * rs) + x' = 32 * (y * rs) + x) : y' = y ∧ x' = x := by
  have e1 : 32 * (y' * rs) + x' = (32 * rs) * y' + x' := by rw [Nat.mul_comm y' rs, Nat.mul_assoc]
  have e2 : 32 * (y * rs) + x = (32 * rs) * y + x := by rw [Nat.mul_comm y rs, Nat.mul_assoc]
  rw [e1, e2] at h
  have hp : 0 < 32 * rs := by omega
  have h1 : ((32 * rs) * y' + x') / (32 * rs) = y' := by rw [Nat.mul_add_div hp, Nat.div_eq_of_lt hx']; omega
  have h2 : ((32 * rs) * y + x) / (32 * rs) = y := by rw [Nat.mul_add_div hp, Nat.div_eq_of_lt hx]; omega
  have hy : y' = y := by rw [← h1, ← h2, h]
  subst hy
  exact ⟨rfl, by omega⟩
theorem GM.set {w : World} {B C W H rs : Nat} {ws : List Nat} {f : Nat → Nat → Bool} (h : GM w B C W H rs ws f) {y x : Nat} (hy : y < H) (hx : x < 32 * rs) :
    GM (w.setCell ⟨C, y * rs + x / 32, none⟩ (.int .u32 ((ws.getD (y * rs + x / 32) 0 ||| 2 ^ (x % 32) : Nat) : Int))) B C W H rs (setBit ws (32 * (y * rs) + x)) (updB f y x true) := by
  have hl := row_lt hy hx
  have e1 : (32 * (y * rs) + x) / 32 = y * rs + x / 32 := by omega
  have e2 : (32 * (y * rs) + x) % 32 = x % 32 := by omega
  refine ⟨h.st.set_other (fun e => h.ne (by simpa using e.symm)) _, ?_, h.ne, setBit_lt _ _ h.lt, by rw [setBit_length]; exact h.len, h.wide, h.few, h.few2, h.few3, fun y' x' hy' hx' => ?_⟩
  · have := h.ar.set (y * rs + x / 32) (.int .u32 ((ws.getD (y * rs + x / 32) 0 ||| 2 ^ (x % 32) : Nat) : Int))
    unfold setBit
    rw [e1, e2, List.map_set]
    exact this
  · rw [setBit_bit _ _ (by rw [e1, h.len]; exact hl), h.bit y' x' hy' hx']
    unfold updB
    by_cases he : y' = y ∧ x' = x
    · obtain ⟨rfl, rfl⟩ := he; simp
    · rw [if_neg he]
      have : ¬ (32 * (y' * rs) + x' = 32 * (y * rs) + x) := fun e => he (flat_inj hx hx' e)
      simp [this]
theorem GM.cellw {w : World} {B C W H rs : Nat} {ws : List Nat} {f : Nat → Nat → Bool} (h : GM w B C W H rs ws f) {y x : Nat} (hy : y < H) (hx : x < 32 * rs) {v : Nat} (hv : v = ws.getD (y * rs + x / 32) 0) :
    w.cell? ⟨C, y * rs + x / 32, none⟩ = some (.int .u32 (v : Int)) := by
  have hl := row_lt hy hx
  rw [← h.len] at hl
  refine h.ar.at ?_
  rw [hv, List.getElem?_map, List.getD_eq_getElem?_getD, List.getElem?_eq_getElem hl]; rfl
set_option maxRecDepth 100000 in
set_option maxHeartbeats 1000000 in
theorem gmNew_c (W H rs : Nat) (h1 : 1 ≤ W) (h2 : 1 ≤ H) (hW : W ≤ 600) (hH : H ≤ 400) (hrs : (W + 31) / 32 = rs) (hn : rs * H ≤ 4000) (w : World) :
    Calls Tryz.prog 73 #[.int .i64 (W : Int), .int .i64 (H : Int)] w fun e w' => e = .returned (.tuple #[ptv (w.heap.size + 1), .nilIface]) ∧ GM w' (w.heap.size + 1) w.heap.size W H rs (List.replicate (rs * H) 0) (fun _ _ => false) ∧ Kept [] w w' := by
  have i1 : (1 : Int) ≤ W := by omega
  have i2 : (1 : Int) ≤ H := by omega
  have i3 : (W : Int) ≤ 600 := by omega
  have i4 : (H : Int) ≤ 400 := by omega
  have hd : ((W : Int) + 31) / 32 = (rs : Int) := by omega
  obtain ⟨n, hn'⟩ : ∃ n, rs * H = n := ⟨_, rfl⟩
  have hm : (rs : Int) * (H : Int) = (n : Int) := by rw [← hn']; simp
  have i5 : (n : Int) ≤ 4000 := by omega
  have i6 : (rs : Int) ≤ 20 := by omega
  have hmk := mk_u32s (n : Int) (n : Int) n n rfl rfl (by omega) (by omega)
  have HN := Lib.hid hn'
  have hrs2 : rs ≤ 20 := by omega
  have hwd : W ≤ 32 * rs := by omega
  have hnn : n ≤ 4000 := by omega
  clear hn' hrs hn
  go_enter Tryz.func73, Tryz.ntmps73
  go_wp2_with fail
  go_ret2
  rw [HN.out]
  have hb := Blk.new w (List.replicate n (Value.int .u32 0)) 151
  refine ⟨rfl, ⟨?_, ?_, by omega, ?_, ?_, hwd, by rw [HN.out]; exact hnn, hH, hrs2, fun y x hy hx => ?_⟩, ((Kept.refl _ _).alloc _).alloc _⟩
  · rw [HN.out]
    have := Blk.new (w.alloc (.cells (List.replicate n (Value.int .u32 0)).toArray 151)) [.int .i64 (W : Int), .int .i64 (H : Int), .int .i64 (rs : Int), slv w.heap.size n n] 150
    simpa using this
  · have := hb.alloc (.cells #[.int .i64 (W : Int), .int .i64 (H : Int), .int .i64 (rs : Int), slv w.heap.size n n] 150)
    simpa [u32c] using this
  · intro x hx; rw [List.mem_replicate] at hx; omega
  · rw [List.length_replicate, HN.out]
  · unfold bitOf
    rw [List.getD_eq_getElem?_getD, List.getElem?_replicate]
    split <;> simp
theorem gmHeight_c {w : World} {B C W H rs : Nat} {ws : List Nat} {f : Nat → Nat → Bool} (h : GM w B C W H rs ws f) : Calls Tryz.prog 26 #[ptv B] w fun e w' => e = .returned (.int .i64 (H : Int)) ∧ w = w' := by
  have h0 := h.st.at (i := 1) rfl
  clear h
  go_enter Tryz.func26, Tryz.ntmps26
  go_wp2
  go_ret
  exact ⟨rfl, rfl⟩
theorem gmWidth_c {w : World} {B C W H rs : Nat} {ws : List Nat} {f : Nat → Nat → Bool} (h : GM w B C W H rs ws f) : Calls Tryz.prog 27 #[ptv B] w fun e w' => e = .returned (.int .i64 (W : Int)) ∧ w = w' := by
  have h0 := h.st.at (i := 0) rfl
  clear h
  go_enter Tryz.func27, Tryz.ntmps27
  go_wp2
  go_ret
  exact ⟨rfl, rfl⟩
theorem u32_shrbit (v k : Nat) (hv : v < 4294967296) : (bits .and .u32 ((v : Int) / 2 ^ k) 1 != 0) = v.testBit k := by
  have e : ((2 : Int) ^ k) = ((2 ^ k : Nat) : Int) := by rw [Int.natCast_pow]; rfl
  have e1 : (v : Int) / 2 ^ k = ((v / 2 ^ k : Nat) : Int) := by rw [e]; simp
  have hl : v / 2 ^ k < 4294967296 := Nat.lt_of_le_of_lt (Nat.div_le_self _ _) hv
  have h := u32_and_nat (v / 2 ^ k) 1 hl (by decide)
  rw [e1, show (1 : Int) = ((1 : Nat) : Int) from rfl, h, show v / 2 ^ k &&& 1 = v / 2 ^ k % 2 from Nat.and_two_pow_sub_one_eq_mod _ 1, Nat.testBit_eq_decide_div_mod_eq]
  rcases Nat.mod_two_eq_zero_or_one (v / 2 ^ k) with h | h <;> rw [h] <;> simp
def flipBit (ws : List Nat) (i : Nat) : List Nat := ws.set (i / 32) (ws.getD (i / 32) 0 ^^^ 2 ^ (i % 32))
theorem flipBit_length (ws : List Nat) (i : Nat) : (flipBit ws i).length = ws.length := by simp [flipBit]
theorem flipBit_bit (ws : List Nat) (i : Nat) (hi : i / 32 < ws.length) (j : Nat) : bitOf (flipBit ws i) j = (bitOf ws j != decide (j = i)) := by
  unfold bitOf flipBit
  rw [List.getD_eq_getElem?_getD, List.getElem?_set]
  by_cases h : i / 32 = j / 32
  · rw [if_pos h, if_pos hi, Option.getD_some, Nat.testBit_xor, Nat.testBit_two_pow, ← h, List.getD_eq_getElem?_getD]
    have : decide (i % 32 = j % 32) = decide (j = i) := by apply decide_eq_decide.2; omega
    rw [this]
  · rw [if_neg h]
    have : decide (j = i) = false := decide_eq_false (by rintro rfl; exact h rfl)
    rw [this, List.getD_eq_getElem?_getD]; simp
theorem flipBit_lt (ws : List Nat) (i : Nat) (h : ∀ x ∈ ws, x < 4294967296) : ∀ x ∈ flipBit ws i, x < 4294967296 := by
  intro x hx
  unfold flipBit at hx
  rcases List.mem_or_eq_of_mem_set hx with h1 | rfl
  · exact h x h1
  · exact Nat.xor_lt_two_pow (n := 32) (getD_lt h _) (two_pow_lt (i % 32) (Nat.mod_lt _ (by decide)))
theorem u32_flipbit (x n : Nat) (hx : x < 4294967296) : bits .xor .u32 (x : Int) (2 ^ (n % 32) % 4294967296) = ((x ^^^ 2 ^ (n % 32) : Nat) : Int) := by
  have h2 := two_pow_lt (n % 32) (Nat.mod_lt _ (by decide))
  have e : ((2 : Int) ^ (n % 32)) = ((2 ^ (n % 32) : Nat) : Int) := by rw [Int.natCast_pow]; rfl
  have e2 : (2 : Int) ^ (n % 32) % 4294967296 = ((2 ^ (n % 32) : Nat) : Int) := by
    rw [e]; generalize 2 ^ (n % 32) = y at h2; exact Int.emod_eq_of_lt (by omega) (by omega)
  rw [e2, u32_xor_nat x _ hx h2]
theorem GM.flip {w : World} {B C W H rs : Nat} {ws : List Nat} {f : Nat → Nat → Bool} (h : GM w B C W H rs ws f) {y x : Nat} (hy : y < H) (hx : x < 32 * rs) :
    GM (w.setCell ⟨C, y * rs + x / 32, none⟩ (.int .u32 ((ws.getD (y * rs + x / 32) 0 ^^^ 2 ^ (x % 32) : Nat) : Int))) B C W H rs (flipBit ws (32 * (y * rs) + x)) (updB f y x (!f y x)) := by
  have hl := row_lt hy hx
  have e1 : (32 * (y * rs) + x) / 32 = y * rs + x / 32 := by omega
  have e2 : (32 * (y * rs) + x) % 32 = x % 32 := by omega
  refine ⟨h.st.set_other (fun e => h.ne (by simpa using e.symm)) _, ?_, h.ne, flipBit_lt _ _ h.lt, by rw [flipBit_length]; exact h.len, h.wide, h.few, h.few2, h.few3, fun y' x' hy' hx' => ?_⟩
  · have := h.ar.set (y * rs + x / 32) (.int .u32 ((ws.getD (y * rs + x / 32) 0 ^^^ 2 ^ (x % 32) : Nat) : Int))
    unfold flipBit
    rw [e1, e2, List.map_set]
    exact this
  · rw [flipBit_bit _ _ (by rw [e1, h.len]; exact hl), h.bit y' x' hy' hx']
    unfold updB
    by_cases he : y' = y ∧ x' = x
    · obtain ⟨rfl, rfl⟩ := he; simp
    · rw [if_neg he]
      have : ¬ (32 * (y' * rs) + x' = 32 * (y * rs) + x) := fun e => he (flat_inj hx hx' e)
      simp [this]
set_option maxRecDepth 100000 in
set_option maxHeartbeats 1000000 in
theorem gmGet_c {w : World} {B C W H rs : Nat} {ws : List Nat} {f : Nat → Nat → Bool} (h : GM w B C W H rs ws f) {y x : Nat} (hy : y < H) (hx : x < W) {b : Bool} (hb : f y x = b) :
    Calls Tryz.prog 28 #[ptv B, .int .i64 (x : Int), .int .i64 (y : Int)] w fun e w' => e = .returned (.bool b) ∧ w = w' := by
  have hx2 : x < 32 * rs := by have := h.wide; omega
  have hl := row_lt hy hx2
  have h0 := h.st.at (i := 0) rfl
  have h1 := h.st.at (i := 1) rfl
  have h2 := h.st.at (i := 2) rfl
  have h3 := h.st.at (i := 3) rfl
  obtain ⟨v, hv⟩ : ∃ v, v = ws.getD (y * rs + x / 32) 0 := ⟨_, rfl⟩
  have hc := h.cellw hy hx2 hv
  have hvl : v < 4294967296 := by rw [hv]; exact getD_lt h.lt _
  have hbit : v.testBit (x % 32) = b := by
    have := h.bit y x hy hx2
    unfold bitOf at this
    rw [show (32 * (y * rs) + x) / 32 = y * rs + x / 32 by omega, show (32 * (y * rs) + x) % 32 = x % 32 by omega] at this
    rw [hv, this, hb]
  have ht := u32_shrbit v (x % 32) hvl
  have f1 := h.few
  have f2 := h.few2
  have f3 := h.few3
  have hcap := row_cap (rs := rs) hy
  obtain ⟨n, hn⟩ : ∃ n, rs * H = n := ⟨_, rfl⟩
  obtain ⟨a, ha⟩ : ∃ a, y * rs = a := ⟨_, rfl⟩
  rw [hn] at h3 hl f1 hcap
  rw [ha] at hc hl hcap
  have hm : (y : Int) * (rs : Int) = (a : Int) := by rw [← ha]; simp
  have i1 : (a : Int) ≤ 4000 := by omega
  have i2 : (x : Int) < (W : Int) := by omega
  have i3 : (y : Int) < (H : Int) := by omega
  have i4 : (x : Int) ≤ 640 := by omega
  obtain ⟨q, hq⟩ : ∃ q, x / 32 = q := ⟨_, rfl⟩
  rw [hq] at hc hl
  have i5 : (x : Int) / 32 = (q : Int) := by omega
  have i7 : (q : Int) ≤ 20 := by omega
  have i8 : (a : Int) + (q : Int) < (n : Int) := by omega
  have j1 : (0 : Int) ≤ x := by omega
  have j2 : (0 : Int) ≤ y := by omega
  have j3 : ¬ W ≤ x := by omega
  have j4 : ¬ H ≤ y := by omega
  clear hq
  have HB := Lib.hid hbit
  clear hbit hv hb hn ha h
  go_enter Tryz.func28, Tryz.ntmps28
  go_wp2_with fail
  go_ret
  exact ⟨ret_bool HB.out, rfl⟩
set_option maxRecDepth 100000 in
set_option maxHeartbeats 1000000 in
theorem gmSet_c {w : World} {B C W H rs : Nat} {ws : List Nat} {f : Nat → Nat → Bool} (h : GM w B C W H rs ws f) {y x : Nat} (hy : y < H) (hx2 : x < 32 * rs) :
    Calls Tryz.prog 83 #[ptv B, .int .i64 (x : Int), .int .i64 (y : Int)] w fun e w' => e = .returned (.tuple #[]) ∧ GM w' B C W H rs (setBit ws (32 * (y * rs) + x)) (updB f y x true) ∧ Kept [C] w w' := by
  have hl := row_lt hy hx2
  have h2 := h.st.at (i := 2) rfl
  have h3 := h.st.at (i := 3) rfl
  have HG := Lib.hid (h.set hy hx2)
  have hfr := h.ar.free (y * rs + x / 32)
  obtain ⟨v, hv⟩ : ∃ v, v = ws.getD (y * rs + x / 32) 0 := ⟨_, rfl⟩
  have hc := h.cellw hy hx2 hv
  rw [← hv] at HG
  have hvl : v < 4294967296 := by rw [hv]; exact getD_lt h.lt _
  have ht := u32_setbit v x hvl
  have f1 := h.few
  have f2 := h.few2
  have f3 := h.few3
  have hcap := row_cap (rs := rs) hy
  obtain ⟨n, hn⟩ : ∃ n, rs * H = n := ⟨_, rfl⟩
  obtain ⟨a, ha⟩ : ∃ a, y * rs = a := ⟨_, rfl⟩
  rw [hn] at h3 hl f1 hcap
  rw [ha] at hc hl hcap HG hfr
  have HA : Hid (y * rs = a) := Lib.hid ha
  have hm : (y : Int) * (rs : Int) = (a : Int) := by rw [← ha]; simp
  have i1 : (a : Int) ≤ 4000 := by omega
  have i3 : (y : Int) < (H : Int) := by omega
  have i4 : (x : Int) ≤ 640 := by omega
  obtain ⟨q, hq⟩ : ∃ q, x / 32 = q := ⟨_, rfl⟩
  rw [hq] at hc hl HG hfr
  have i5 : (x : Int) / 32 = (q : Int) := by omega
  have i7 : (q : Int) ≤ 20 := by omega
  have i8 : (a : Int) + (q : Int) < (n : Int) := by omega
  have j1 : (0 : Int) ≤ x := by omega
  have j2 : (0 : Int) ≤ y := by omega
  clear hq hv hn ha h
  go_enter Tryz.func83, Tryz.ntmps83
  go_wp2_with fail
  go_end0
  refine ⟨rfl, ?_, (Kept.refl _ _).setCell (p := ⟨C, a + q, none⟩) (.inl (by simp)) _⟩
  rw [HA.out]
  exact HG.out
set_option maxRecDepth 100000 in
set_option maxHeartbeats 1000000 in
theorem gmFlip_c {w : World} {B C W H rs : Nat} {ws : List Nat} {f : Nat → Nat → Bool} (h : GM w B C W H rs ws f) {y x : Nat} (hy : y < H) (hx2 : x < 32 * rs) :
    Calls Tryz.prog 206 #[ptv B, .int .i64 (x : Int), .int .i64 (y : Int)] w fun e w' => e = .returned (.tuple #[]) ∧ GM w' B C W H rs (flipBit ws (32 * (y * rs) + x)) (updB f y x (!f y x)) ∧ Kept [C] w w' := by
  have hl := row_lt hy hx2
  have h2 := h.st.at (i := 2) rfl
  have h3 := h.st.at (i := 3) rfl
  have HG := Lib.hid (h.flip hy hx2)
  have hfr := h.ar.free (y * rs + x / 32)
  obtain ⟨v, hv⟩ : ∃ v, v = ws.getD (y * rs + x / 32) 0 := ⟨_, rfl⟩
  have hc := h.cellw hy hx2 hv
  rw [← hv] at HG
  have hvl : v < 4294967296 := by rw [hv]; exact getD_lt h.lt _
  have ht := u32_flipbit v x hvl
  have f1 := h.few
  have f2 := h.few2
  have f3 := h.few3
  have hcap := row_cap (rs := rs) hy
  obtain ⟨n, hn⟩ : ∃ n, rs * H = n := ⟨_, rfl⟩
  obtain ⟨a, ha⟩ : ∃ a, y * rs = a := ⟨_, rfl⟩
  rw [hn] at h3 hl f1 hcap
  rw [ha] at hc hl hcap HG hfr
  have HA : Hid (y * rs = a) := Lib.hid ha
  have hm : (y : Int) * (rs : Int) = (a : Int) := by rw [← ha]; simp
  have i1 : (a : Int) ≤ 4000 := by omega
  have i3 : (y : Int) < (H : Int) := by omega
  have i4 : (x : Int) ≤ 640 := by omega
  obtain ⟨q, hq⟩ : ∃ q, x / 32 = q := ⟨_, rfl⟩
  rw [hq] at hc hl HG hfr
  have i5 : (x : Int) / 32 = (q : Int) := by omega
  have i7 : (q : Int) ≤ 20 := by omega
  have i8 : (a : Int) + (q : Int) < (n : Int) := by omega
  have j1 : (0 : Int) ≤ x := by omega
  have j2 : (0 : Int) ≤ y := by omega
  clear hq hv hn ha h
  go_enter Tryz.func206, Tryz.ntmps206
  go_wp2_with fail
  go_end0
  refine ⟨rfl, ?_, (Kept.refl _ _).setCell (p := ⟨C, a + q, none⟩) (.inl (by simp)) _⟩
  rw [HA.out]
  exact HG.out
end

section
/-- f with all set in rows top .. yy - 1, columns left .. right - 1. -/
def reg (f : Nat → Nat → Bool) (top yy left right : Nat) : Nat → Nat → Bool := fun y x => if top ≤ y ∧ y < yy ∧ left ≤ x ∧ x < right then true else f y x
theorem reg_step (f : Nat → Nat → Bool) (y l x : Nat) (hx : l ≤ x) : updB (reg f y (y + 1) l x) y x true = reg f y (y + 1) l (x + 1) := by
  funext y' x'
  unfold updB reg
  by_cases h : y' = y ∧ x' = x
  · obtain ⟨rfl, rfl⟩ := h
    rw [if_pos ⟨rfl, rfl⟩, if_pos (by omega)]
  · rw [if_neg h]
    by_cases h2 : y ≤ y' ∧ y' < y + 1 ∧ l ≤ x' ∧ x' < x
    · rw [if_pos h2, if_pos (by omega)]
    · rw [if_neg h2, if_neg (by omega)]
theorem reg_row (f : Nat → Nat → Bool) (t y l r : Nat) (hy : t ≤ y) : reg (reg f t y l r) y (y + 1) l r = reg f t (y + 1) l r := by
  funext y' x'
  unfold reg
  by_cases h : y ≤ y' ∧ y' < y + 1 ∧ l ≤ x' ∧ x' < r
  · rw [if_pos h, if_pos (by omega)]
  · rw [if_neg h]
    by_cases h2 : t ≤ y' ∧ y' < y ∧ l ≤ x' ∧ x' < r
    · rw [if_pos h2, if_pos (by omega)]
    · rw [if_neg h2, if_neg (by omega)]
theorem reg_none (f : Nat → Nat → Bool) (y y2 l r : Nat) (h : y2 ≤ y ∨ r ≤ l) : reg f y y2 l r = f := by
  funext y' x'; unfold reg; rw [if_neg (by omega)]
set_option maxRecDepth 100000 in
set_option maxHeartbeats 2000000 in
theorem gmRegion_c {w : World} {B C W H rs : Nat} {ws : List Nat} {f : Nat → Nat → Bool} (h : GM w B C W H rs ws f) (l t wd ht : Nat) (h1 : 1 ≤ wd) (h2 : 1 ≤ ht) (hW : l + wd ≤ W) (hH : t + ht ≤ H) :
    Calls Tryz.prog 75 #[ptv B, .int .i64 (l : Int), .int .i64 (t : Int), .int .i64 (wd : Int), .int .i64 (ht : Int)] w fun e w' => e = .returned .nilIface ∧ (∃ ws', GM w' B C W H rs ws' (reg f t (t + ht) l (l + wd))) ∧ Kept [C] w w' := by
  have c0 := h.st.at (i := 0) rfl
  have c1 := h.st.at (i := 1) rfl
  have HW := Lib.hid h.wide
  have HF := Lib.hid h.few
  have HF2 := Lib.hid h.few2
  have HF3 := Lib.hid h.few3
  obtain ⟨b, hb⟩ : ∃ b, t + ht = b := ⟨_, rfl⟩
  obtain ⟨r, hr⟩ : ∃ r, l + wd = r := ⟨_, rfl⟩
  rw [hb] at hH
  rw [hr] at hW
  have hbi : (t : Int) + (ht : Int) = (b : Int) := by omega
  have hri : (l : Int) + (wd : Int) = (r : Int) := by omega
  have i1 : (1 : Int) ≤ wd := by omega
  have i2 : (1 : Int) ≤ ht := by omega
  have i3 : (b : Int) ≤ (H : Int) := by omega
  have i4 : (r : Int) ≤ (W : Int) := by omega
  have i5 : (H : Int) ≤ 400 := by have := h.few2; omega
  have i6 : (W : Int) ≤ 640 := by have := h.wide; have := h.few3; omega
  have HB := Lib.hid hb
  have HR := Lib.hid hr
  have Hh := Lib.hid h
  rw [HB.out, HR.out]
  clear hb hr h
  go_enter Tryz.func75, Tryz.ntmps75
  go_wp2_with fail
  go_loopw [13] (fun s13 wr => ∃ y ws', t ≤ y ∧ y ≤ b ∧ s13 = .int .i64 (y : Int) ∧ GM wr B C W H rs ws' (reg f t y l r) ∧ Kept [C] w wr) (fun s _ => (b - (intOf s)).toNat)
  case atStart => exact ⟨t, ws, Nat.le_refl _, by have := HB.out; omega, rfl, by rw [reg_none _ _ _ _ _ (.inl (Nat.le_refl _))]; exact Hh.out, Kept.refl _ _⟩
  case round =>
    obtain ⟨y, ws1, hy1, hyb, rfl, hg, hk⟩ := hrel
    by_cases hlt : y < b
    · have il : (y : Int) < (b : Int) := by omega
      have hyH : y < H := by omega
      have c2 := hg.st.at (i := 2) rfl
      obtain ⟨a, ha⟩ : ∃ a, y * rs = a := ⟨_, rfl⟩
      have hm : (y : Int) * (rs : Int) = (a : Int) := by rw [← ha]; simp
      have hcap := row_cap (rs := rs) hyH
      rw [ha] at hcap
      have j1 : (a : Int) ≤ 4000 := by have := HF.out; omega
      have HA := Lib.hid ha
      have HCAP := Lib.hid hcap
      have HG := Lib.hid hg
      clear ha hcap hg
      go_wp2_with fail
      obtain ⟨wo, hwo⟩ : ∃ wo : World, wo = wr := ⟨_, rfl⟩
      rw [← hwo] at HG hk c2
      go_loopw [15] (fun s15 wq => ∃ x ws', l ≤ x ∧ x ≤ r ∧ s15 = .int .i64 (x : Int) ∧ GM wq B C W H rs ws' (reg (reg f t y l r) y (y + 1) l x) ∧ Kept [C] w wq) (fun s _ => (r - (intOf s)).toNat)
      case atStart => exact ⟨l, ws1, Nat.le_refl _, by have := HR.out; omega, rfl, by rw [reg_none _ _ _ _ _ (.inr (Nat.le_refl _))]; rw [← hwo]; exact HG.out, by rw [← hwo]; exact hk⟩
      case round =>
        clear c2
        obtain ⟨x, ws2, hx1, hxr, rfl, hg, hk2⟩ := hrel
        by_cases hlx : x < r
        · have ilx : (x : Int) < (r : Int) := by omega
          have hx32 : x < 32 * rs := by have := HW.out; omega
          have hl := row_lt hyH hx32
          have d3 := hg.st.at (i := 3) rfl
          have HGS := Lib.hid (hg.set hyH hx32)
          have hfr := hg.ar.free (y * rs + x / 32)
          obtain ⟨v, hv⟩ : ∃ v, v = ws2.getD (y * rs + x / 32) 0 := ⟨_, rfl⟩
          have hc := hg.cellw hyH hx32 hv
          rw [← hv] at HGS
          have hvl : v < 4294967296 := by rw [hv]; exact getD_lt hg.lt _
          have ht' := u32_setbit v x hvl
          obtain ⟨n, hn⟩ : ∃ n, rs * H = n := ⟨_, rfl⟩
          rw [hn] at d3 hl
          rw [HA.out] at hc hl HGS hfr
          obtain ⟨q, hq⟩ : ∃ q, x / 32 = q := ⟨_, rfl⟩
          rw [hq] at hc hl HGS hfr
          have i5 : (x : Int) / 32 = (q : Int) := by omega
          have i7 : (q : Int) ≤ 20 := by have := HF3.out; omega
          have i8 : (a : Int) + (q : Int) < (n : Int) := by omega
          have i9 : (n : Int) ≤ 4000 := by have := HF.out; omega
          have j2 : (0 : Int) ≤ x := by omega
          have hk3 := hk2.setCell (p := ⟨C, a + q, none⟩) (.inl (by simp)) (.int .u32 ((v ||| 2 ^ (x % 32) : Nat) : Int))
          have HK3 := Lib.hid hk3
          clear hq hv hn hg hk3
          go_wp2_with fail
          go_roundw
          case rel =>
            have h3 := HGS.out
            rw [reg_step _ _ _ _ hx1] at h3
            exact ⟨x + 1, _, by omega, by omega, by go_num, h3, HK3.out⟩
          case measure => simp [intOf]; omega
        · obtain rfl : x = r := by omega
          have HK := Lib.hid hk2
          have HGx := Lib.hid hg
          clear hg
          go_wp2_with fail
          go_roundw
          case rel => exact ⟨y + 1, ws2, by omega, by omega, by go_num, by rw [← reg_row _ _ _ _ _ hy1]; exact HGx.out, HK.out⟩
          case measure => simp [intOf]; omega
    · obtain rfl : y = b := by omega
      have HG := Lib.hid hg
      clear hg
      go_wp2_with fail
      go_ret
      exact ⟨rfl, ⟨ws1, HG.out⟩, hk⟩
theorem gmSquare_c (n rs : Nat) (h1 : 1 ≤ n) (hn : n ≤ 400) (hrs : (n + 31) / 32 = rs) (hm : rs * n ≤ 4000) (w : World) :
    Calls Tryz.prog 255 #[.int .i64 (n : Int)] w fun e w' => e = .returned (.tuple #[ptv (w.heap.size + 1), .nilIface]) ∧ GM w' (w.heap.size + 1) w.heap.size n n rs (List.replicate (rs * n) 0) (fun _ _ => false) ∧ Kept [] w w' := by
  go_enter Tryz.func255, Tryz.ntmps255
  go_wp2_with fail
  refine (gmNew_c n n rs h1 h1 (by omega) hn hrs hm w).mono ?_
  rintro e w1 ⟨rfl, h, k⟩
  go_wp2_with fail
  go_ret2
  exact ⟨rfl, h, k⟩
end
end Go.Proofs.YtplpafbkalkchaaGreatDoor
