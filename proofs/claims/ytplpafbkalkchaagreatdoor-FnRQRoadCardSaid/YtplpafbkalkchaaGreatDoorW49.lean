/- Plain laws: the words of a matrix of bits around its first and its last dark pixel; the pixels of a picture. No program in sight. Walks: the first and the last dark pixel of a matrix of bits. Walk: how large a module is, off the diagonal of the corner. -/
import Derived.Test.YtplpafbkalkchaaGreatDoorW34
import Derived.Test.YtplpafbkalkchaaGreatDoorW01
import Derived.Test.YtplpafbkalkchaaGreatDoorW27
namespace Go.Proofs.YtplpafbkalkchaaGreatDoor
open Go Go.RowKit Go.Proofs
set_option linter.all false

section
theorem gm_word {w : World} {B C W H rs : Nat} {ws : List Nat} {f : Nat → Nat → Bool} (h : GM w B C W H rs ws f) {y q t : Nat} (hy : y < H) (hq : q < rs) (ht : t < 32) : (ws.getD (y * rs + q) 0).testBit t = f y (32 * q + t) := by
  have := h.bit y (32 * q + t) hy (by omega)
  unfold bitOf at this
  rw [show (32 * (y * rs) + (32 * q + t)) / 32 = y * rs + q by omega, show (32 * (y * rs) + (32 * q + t)) % 32 = t by omega] at this
  exact this
theorem gm_lt {w : World} {B C W H rs : Nat} {ws : List Nat} {f : Nat → Nat → Bool} (h : GM w B C W H rs ws f) (i : Nat) : ws.getD i 0 < 4294967296 := getD_lt h.lt i
theorem gm_zero {w : World} {B C W H rs : Nat} {ws : List Nat} {f : Nat → Nat → Bool} (h : GM w B C W H rs ws f) {y q : Nat} (hy : y < H) (hq : q < rs) (hz : ∀ t, t < 32 → f y (32 * q + t) = false) : ws.getD (y * rs + q) 0 = 0 := by
  apply Nat.eq_of_testBit_eq
  intro i
  rw [Nat.zero_testBit]
  rcases Nat.lt_or_ge i 32 with h1 | h1
  · rw [gm_word h hy hq h1, hz i h1]
  · exact Nat.testBit_lt_two_pow (Nat.lt_of_lt_of_le (gm_lt h _) (Nat.le_trans (by decide : 4294967296 ≤ 2 ^ 32) (Nat.pow_le_pow_right (by decide) h1)))
theorem first_zero {w : World} {B C W H rs : Nat} {ws : List Nat} {f : Nat → Nat → Bool} (h : GM w B C W H rs ws f) {tp lp : Nat} (htp : tp < H) (hlp : lp < 32 * rs)
    (hb : ∀ y x, y < H → x < 32 * rs → (y < tp ∨ (y = tp ∧ x < lp)) → f y x = false) : ∀ i, i < tp * rs + lp / 32 → ws.getD i 0 = 0 := by
  intro i hi
  have hrs : 0 < rs := by omega
  obtain ⟨y, hy⟩ : ∃ y, i / rs = y := ⟨_, rfl⟩
  obtain ⟨q, hq⟩ : ∃ q, i % rs = q := ⟨_, rfl⟩
  have e : i = y * rs + q := by rw [← hy, ← hq, Nat.mul_comm]; exact (Nat.div_add_mod i rs).symm
  have hq2 : q < rs := by rw [← hq]; exact Nat.mod_lt _ hrs
  rw [e] at hi ⊢
  rcases Nat.lt_or_ge tp y with h1 | h1
  · exfalso
    have := Nat.mul_le_mul_right rs (show tp + 1 ≤ y from h1)
    rw [Nat.succ_mul] at this; omega
  · refine gm_zero h (by omega) hq2 (fun t ht => hb y _ (by omega) (by omega) ?_)
    rcases Nat.lt_or_ge y tp with h2 | h2
    · exact .inl h2
    · obtain rfl : y = tp := by omega
      exact .inr ⟨rfl, by omega⟩
theorem last_zero {w : World} {B C W H rs : Nat} {ws : List Nat} {f : Nat → Nat → Bool} (h : GM w B C W H rs ws f) {bt rt : Nat} (hbt : bt < H) (hrt : rt < 32 * rs)
    (hb : ∀ y x, y < H → x < 32 * rs → (bt < y ∨ (y = bt ∧ rt < x)) → f y x = false) : ∀ i, bt * rs + rt / 32 < i → i < rs * H → ws.getD i 0 = 0 := by
  intro i hi hi2
  have hrs : 0 < rs := by omega
  obtain ⟨y, hy⟩ : ∃ y, i / rs = y := ⟨_, rfl⟩
  obtain ⟨q, hq⟩ : ∃ q, i % rs = q := ⟨_, rfl⟩
  have e : i = y * rs + q := by rw [← hy, ← hq, Nat.mul_comm]; exact (Nat.div_add_mod i rs).symm
  have hq2 : q < rs := by rw [← hq]; exact Nat.mod_lt _ hrs
  have hyH : y < H := by rw [← hy]; exact (Nat.div_lt_iff_lt_mul hrs).2 (by rw [Nat.mul_comm]; exact hi2)
  rw [e] at hi ⊢
  rcases Nat.lt_or_ge y bt with h1 | h1
  · exfalso
    have := Nat.mul_le_mul_right rs (show y + 1 ≤ bt from h1)
    rw [Nat.succ_mul] at this; omega
  · refine gm_zero h hyH hq2 (fun t ht => hb y _ hyH (by omega) ?_)
    rcases Nat.lt_or_ge bt y with h2 | h2
    · exact .inl h2
    · obtain rfl : y = bt := by omega
      exact .inr ⟨rfl, by omega⟩
theorem shl_zero {v j : Nat} (hj : j ≤ 31) (h : ∀ t, t ≤ j → v.testBit t = false) : v * 2 ^ (31 - j) % 4294967296 = 0 := by
  apply Nat.eq_of_testBit_eq
  intro i
  rw [Nat.zero_testBit, show (4294967296 : Nat) = 2 ^ 32 from rfl, Nat.testBit_mod_two_pow, ← Nat.shiftLeft_eq, Nat.testBit_shiftLeft]
  by_cases h1 : i < 32
  · by_cases h2 : 31 - j ≤ i
    · rw [h (i - (31 - j)) (by omega)]; simp
    · simp [h2]
  · simp [h1]
theorem shl_pos {v j : Nat} (hj : j ≤ 31) (h : v.testBit j = true) : v * 2 ^ (31 - j) % 4294967296 ≠ 0 := by
  intro e
  have h2 := congrArg (fun x => x.testBit 31) e
  simp only [Nat.zero_testBit] at h2
  rw [show (4294967296 : Nat) = 2 ^ 32 from rfl, Nat.testBit_mod_two_pow, ← Nat.shiftLeft_eq, Nat.testBit_shiftLeft, show 31 - (31 - j) = j by omega, h] at h2
  simp at h2
theorem shr_zero {v b : Nat} (hv : v < 4294967296) (h : ∀ t, b ≤ t → t < 32 → v.testBit t = false) : v / 2 ^ b = 0 := by
  apply Nat.eq_of_testBit_eq
  intro i
  rw [Nat.zero_testBit, ← Nat.shiftRight_eq_div_pow, Nat.testBit_shiftRight]
  by_cases h1 : b + i < 32
  · exact h _ (by omega) h1
  · exact Nat.testBit_lt_two_pow (Nat.lt_of_lt_of_le hv (Nat.le_trans (by decide : 4294967296 ≤ 2 ^ 32) (Nat.pow_le_pow_right (by decide) (by omega))))
theorem shr_pos {v b : Nat} (h : v.testBit b = true) : v / 2 ^ b ≠ 0 := by
  intro e
  have h2 := congrArg (fun x => x.testBit 0) e
  simp only [Nat.zero_testBit] at h2
  rw [← Nat.shiftRight_eq_div_pow, Nat.testBit_shiftRight, Nat.add_zero, h] at h2
  cases h2
theorem greatest (p : Nat → Bool) : ∀ (N x0 : Nat), x0 < N → p x0 = true → ∃ r, x0 ≤ r ∧ r < N ∧ p r = true ∧ ∀ x, r < x → x < N → p x = false
  | 0, _, h, _ => by omega
  | N + 1, x0, h, hp => by
    cases e : p N with
    | true => exact ⟨N, by omega, by omega, e, by intro x h1 h2; omega⟩
    | false =>
      have hlt : x0 < N := by
        rcases Nat.lt_or_ge x0 N with h1 | h1
        · exact h1
        · obtain rfl : x0 = N := by omega
          rw [e] at hp; cases hp
      obtain ⟨r, h1, h2, h3, h4⟩ := greatest p N x0 hlt hp
      refine ⟨r, h1, by omega, h3, fun x hx hx2 => ?_⟩
      rcases Nat.lt_or_ge x N with h5 | h5
      · exact h4 x hx h5
      · obtain rfl : x = N := by omega
        exact e
/-- The picture as it is seen: dark where a dark module lies. -/
def pix (M : Nat → Nat → Int) (n lp tp m W : Nat) : Nat → Nat → Bool := fun y x => decide (x < W) && picUp M n lp tp m n 0 y x
theorem pix_in {M : Nat → Nat → Int} {n lp tp m W y x : Nat} (hm : 0 < m) (h : pix M n lp tp m W y x = true) : x < W ∧ tp ≤ y ∧ y < tp + n * m ∧ lp ≤ x ∧ x < lp + n * m := by
  unfold pix picUp at h
  rw [Bool.and_eq_true, decide_eq_true_iff, decide_eq_true_iff] at h
  obtain ⟨h1, h2, h3, h4, h5, h6⟩ := h
  have a := (Nat.div_lt_iff_lt_mul hm).1 h4
  have b : (y - tp) / m < n := by
    rcases h5 with h | h
    · exact h
    · exact absurd h.2 (Nat.not_lt_zero _)
  have c := (Nat.div_lt_iff_lt_mul hm).1 b
  omega
theorem pix_at {M : Nat → Nat → Int} {n lp tp m W : Nat} (hm : 0 < m) (hW : lp + n * m ≤ W) {y x a b : Nat} (hy : y < n) (hx : x < n) (ha : a < m) (hb : b < m) :
    pix M n lp tp m W (tp + (y * m + a)) (lp + (x * m + b)) = decide (M y x = 1) := by
  have e1 : (tp + (y * m + a) - tp) / m = y := by rw [Nat.add_sub_cancel_left, Nat.mul_comm, Nat.mul_add_div hm, Nat.div_eq_of_lt ha]; omega
  have e2 : (lp + (x * m + b) - lp) / m = x := by rw [Nat.add_sub_cancel_left, Nat.mul_comm, Nat.mul_add_div hm, Nat.div_eq_of_lt hb]; omega
  have hxl : x * m + b < n * m := by have := Nat.mul_le_mul_right m (show x + 1 ≤ n from hx); rw [Nat.succ_mul] at this; omega
  unfold pix picUp
  rw [e1, e2, decide_eq_true (by omega : lp + (x * m + b) < W), Bool.true_and]
  apply decide_eq_decide.2
  constructor
  · intro h; exact h.2.2.2.2
  · intro h; exact ⟨by omega, by omega, hx, .inl hy, h⟩
end

section
theorem div_row {rs : Nat} (h1 : 0 < rs) (tp q : Nat) (hq : q < rs) : ((tp * rs + q : Nat) : Int) / (rs : Int) = (tp : Int) ∧ ((tp * rs + q : Nat) : Int) % (rs : Int) = (q : Int) := by
  have e1 : (tp * rs + q) / rs = tp := by rw [Nat.mul_comm, Nat.mul_add_div h1, Nat.div_eq_of_lt hq]; omega
  have e2 : (tp * rs + q) % rs = q := by rw [Nat.mul_comm, Nat.mul_add_mod, Nat.mod_eq_of_lt hq]
  constructor
  · rw [← Int.natCast_ediv, e1]
  · rw [← Int.natCast_emod, e2]
theorem shl_int (v j : Nat) : ((v : Int) * 2 ^ (31 - j) % 4294967296 == 0) = decide (v * 2 ^ (31 - j) % 4294967296 = 0) := by
  have e : (v : Int) * 2 ^ (31 - j) % 4294967296 = ((v * 2 ^ (31 - j) % 4294967296 : Nat) : Int) := by simp
  rw [e, Bool.eq_iff_iff, beq_iff_eq, decide_eq_true_iff]; omega
theorem shr_int (v j : Nat) : ((v : Int) / 2 ^ j == 0) = decide (v / 2 ^ j = 0) := by
  have e : (v : Int) / 2 ^ j = ((v / 2 ^ j : Nat) : Int) := by simp
  rw [e, Bool.eq_iff_iff, beq_iff_eq, decide_eq_true_iff]; omega
set_option maxRecDepth 100000 in
set_option maxHeartbeats 2000000 in
theorem topLeft_c {w : World} {B C W H rs : Nat} {ws : List Nat} {f : Nat → Nat → Bool} (h : GM w B C W H rs ws f) {tp lp : Nat} (htp : tp < H) (hlp : lp < 32 * rs) (hf : f tp lp = true)
    (hb : ∀ y x, y < H → x < 32 * rs → (y < tp ∨ (y = tp ∧ x < lp)) → f y x = false) :
    Calls Tryz.prog 78 #[ptv B] w fun e w' => e = .returned (slv w.heap.size 2 2) ∧ Blk w' w.heap.size [intc lp, intc tp] 3 ∧ Kept [] w w' := by
  have hz := first_zero h htp hlp hb
  obtain ⟨q, hq⟩ : ∃ q, lp / 32 = q := ⟨_, rfl⟩
  obtain ⟨r, hr⟩ : ∃ r, lp % 32 = r := ⟨_, rfl⟩
  have hqr : q < rs := by omega
  have hr32 : r < 32 := by omega
  obtain ⟨T, hT⟩ : ∃ T, tp * rs + q = T := ⟨_, rfl⟩
  have hTl : T < rs * H := by have := row_lt (rs := rs) htp hlp; rw [hq, hT] at this; exact this
  obtain ⟨v, hv⟩ : ∃ v, ws.getD T 0 = v := ⟨_, rfl⟩
  have hvr : v.testBit r = true := by rw [← hv, ← hT, gm_word h htp hqr hr32, show 32 * q + r = lp by omega]; exact hf
  have hvl : ∀ t, t < r → v.testBit t = false := fun t ht => by rw [← hv, ← hT, gm_word h htp hqr (by omega)]; exact hb _ _ htp (by omega) (.inr ⟨rfl, by omega⟩)
  have hv0 : v ≠ 0 := fun e => by rw [e, Nat.zero_testBit] at hvr; cases hvr
  have hv32 : v < 4294967296 := by rw [← hv]; exact gm_lt h T
  obtain ⟨hd1, hd2⟩ := div_row (rs := rs) (by omega) tp q hqr
  rw [hT] at hd1 hd2
  have c3 := h.st.at (i := 3) rfl
  have c2 := h.st.at (i := 2) rfl
  have hcell : ∀ k, k < rs * H → w.cell? ⟨C, k, none⟩ = some (.int .u32 ((ws.getD k 0 : Nat) : Int)) := fun k hk => h.ar.at (by
    rw [List.getElem?_map, List.getD_eq_getElem?_getD, List.getElem?_eq_getElem (by rw [h.len]; exact hk)]; rfl)
  have hfew := h.few
  have hrs3 := h.few3
  obtain ⟨n, hn⟩ : ∃ n, rs * H = n := ⟨_, rfl⟩
  rw [hn] at c3 hTl hcell hfew
  have HLP := Lib.hid (show lp = 32 * q + r by omega)
  have HTP := Lib.hid htp
  have HZ := Lib.hid (fun k (hk : k < T) => hz k (by rw [hq, hT]; exact hk))
  have HC := Lib.hid hcell
  have HVL := Lib.hid hvl
  have HVR := Lib.hid hvr
  have HV := Lib.hid hv
  have HD1 := Lib.hid hd1
  have HD2 := Lib.hid hd2
  have hfew2 := h.few2
  have rsi : (1 : Int) ≤ rs := by omega
  have rsi2 : (rs : Int) ≤ 20 := by omega
  have ni : (n : Int) ≤ 4000 := by omega
  have qi : (q : Int) < 20 := by omega
  have ri : (r : Int) < 32 := by omega
  have tpi : (tp : Int) ≤ 400 := by omega
  clear hz hq hr hT hv hvr hvl hn h hb hf hcell hd1 hd2
  go_enter Tryz.func78, Tryz.ntmps78
  go_wp2_with fail
  go_loop [3] (fun s3 => ∃ k : Nat, k ≤ T ∧ s3 = .int .i64 (k : Int)) (fun s => (n - intOf s).toNat)
  case atStart => exact ⟨0, by omega, rfl⟩
  case round =>
    obtain ⟨k, hk, rfl⟩ := hrel
    have hc := HC.out k (by omega)
    have ki : (k : Int) < n := by omega
    have kn : k < n := by omega
    by_cases hlt : k < T
    · rw [HZ.out k hlt] at hc
      go_wp2_with fail
      go_round
      case rel => exact ⟨k + 1, by omega, by go_num⟩
      case measure => simp [intOf]; omega
    · obtain rfl : k = T := by omega
      rw [HV.out] at hc
      have hv0i : ((v : Int) == 0) = false := by simp; omega
      have hkn : ((k : Int) == (n : Int)) = false := by simp; omega
      have hd1 := HD1.out
      have hd2 := HD2.out
      go_wp2_with fail
      go_loop [7] (fun s7 => ∃ j : Nat, j ≤ r ∧ s7 = .int .u64 (j : Int)) (fun s => (32 - intOf s).toNat)
      case atStart => exact ⟨0, by omega, rfl⟩
      case round =>
        clear hd1 hd2
        obtain ⟨j, hj, rfl⟩ := hrel
        have ji : (j : Int) < 32 := by omega
        by_cases hlt2 : j < r
        · have hs : ((v : Int) * 2 ^ (31 - j) % 4294967296 == 0) = true := by rw [shl_int, shl_zero (by omega) (fun t ht => HVL.out t (by omega))]; rfl
          go_wp2_with fail
          go_round
          case rel => exact ⟨j + 1, by omega, by go_num⟩
          case measure => simp [intOf]; omega
        · obtain rfl : j = r := by omega
          have hs : ((v : Int) * 2 ^ (31 - j) % 4294967296 == 0) = false := by rw [shl_int]; exact decide_eq_false (shl_pos (by omega) HVR.out)
          go_wp2_with fail
          go_ret
          have e : (Value.int .i64 ((q : Int) * 32 + (j : Int))) = intc lp := by rw [HLP.out]; go_num
          rw [e]
          exact ⟨rfl, Blk.new w [intc lp, intc tp] 3, (Kept.refl _ _).alloc _⟩
set_option maxRecDepth 100000 in
set_option maxHeartbeats 2000000 in
theorem bottomRight_c {w : World} {B C W H rs : Nat} {ws : List Nat} {f : Nat → Nat → Bool} (h : GM w B C W H rs ws f) {bt rt : Nat} (hbt : bt < H) (hrt : rt < 32 * rs) (hf : f bt rt = true)
    (hb : ∀ y x, y < H → x < 32 * rs → (bt < y ∨ (y = bt ∧ rt < x)) → f y x = false) :
    Calls Tryz.prog 79 #[ptv B] w fun e w' => e = .returned (slv w.heap.size 2 2) ∧ Blk w' w.heap.size [intc rt, intc bt] 3 ∧ Kept [] w w' := by
  have hz := last_zero h hbt hrt hb
  obtain ⟨q, hq⟩ : ∃ q, rt / 32 = q := ⟨_, rfl⟩
  obtain ⟨r, hr⟩ : ∃ r, rt % 32 = r := ⟨_, rfl⟩
  have hqr : q < rs := by omega
  have hr32 : r < 32 := by omega
  obtain ⟨T, hT⟩ : ∃ T, bt * rs + q = T := ⟨_, rfl⟩
  have hTl : T < rs * H := by have := row_lt (rs := rs) hbt hrt; rw [hq, hT] at this; exact this
  obtain ⟨v, hv⟩ : ∃ v, ws.getD T 0 = v := ⟨_, rfl⟩
  have hvr : v.testBit r = true := by rw [← hv, ← hT, gm_word h hbt hqr hr32, show 32 * q + r = rt by omega]; exact hf
  have hvl : ∀ t, r < t → t < 32 → v.testBit t = false := fun t ht ht2 => by rw [← hv, ← hT, gm_word h hbt hqr ht2]; exact hb _ _ hbt (by omega) (.inr ⟨rfl, by omega⟩)
  have hv0 : v ≠ 0 := fun e => by rw [e, Nat.zero_testBit] at hvr; cases hvr
  have hv32 : v < 4294967296 := by rw [← hv]; exact gm_lt h T
  obtain ⟨hd1, hd2⟩ := div_row (rs := rs) (by omega) bt q hqr
  rw [hT] at hd1 hd2
  have c3 := h.st.at (i := 3) rfl
  have c2 := h.st.at (i := 2) rfl
  have hcell : ∀ k, k < rs * H → w.cell? ⟨C, k, none⟩ = some (.int .u32 ((ws.getD k 0 : Nat) : Int)) := fun k hk => h.ar.at (by
    rw [List.getElem?_map, List.getD_eq_getElem?_getD, List.getElem?_eq_getElem (by rw [h.len]; exact hk)]; rfl)
  have hfew := h.few
  have hrs3 := h.few3
  obtain ⟨n, hn⟩ : ∃ n, rs * H = n := ⟨_, rfl⟩
  rw [hn] at c3 hTl hcell hfew
  have HRT := Lib.hid (show rt = 32 * q + r by omega)
  have HBT := Lib.hid hbt
  have HZ := Lib.hid (fun k (hk : T < k) (hk2 : k < n) => hz k (by rw [hq, hT]; exact hk) (by rw [hn]; exact hk2))
  have HC := Lib.hid hcell
  have HVL := Lib.hid hvl
  have HVR := Lib.hid hvr
  have HV := Lib.hid hv
  have HD1 := Lib.hid hd1
  have HD2 := Lib.hid hd2
  have hfew2 := h.few2
  have rsi : (1 : Int) ≤ rs := by omega
  have rsi2 : (rs : Int) ≤ 20 := by omega
  have ni : (n : Int) ≤ 4000 := by omega
  have qi : (q : Int) < 20 := by omega
  have ri : (r : Int) < 32 := by omega
  have bti : (bt : Int) ≤ 400 := by omega
  clear hz hq hr hT hv hvr hvl hn h hb hf hcell hd1 hd2
  go_enter Tryz.func79, Tryz.ntmps79
  go_wp2_with fail
  go_loop [3] (fun s3 => ∃ k : Nat, T ≤ k ∧ k < n ∧ s3 = .int .i64 (k : Int)) (fun s => (intOf s).toNat)
  case atStart => exact ⟨n - 1, by omega, by omega, by congr 1; omega⟩
  case round =>
    obtain ⟨k, hk, hkn, rfl⟩ := hrel
    have hc := HC.out k (by omega)
    have ki : (k : Int) < n := by omega
    by_cases hlt : T < k
    · rw [HZ.out k hlt hkn] at hc
      go_wp2_with fail
      go_round
      case rel => exact ⟨k - 1, by omega, by omega, by congr 1; omega⟩
      case measure => simp [intOf]; omega
    · obtain rfl : k = T := by omega
      rw [HV.out] at hc
      have hv0i : ((v : Int) == 0) = false := by simp; omega
      have hd1 := HD1.out
      have hd2 := HD2.out
      go_wp2_with fail
      go_loop [7] (fun s7 => ∃ j : Nat, r ≤ j ∧ j < 32 ∧ s7 = .int .u64 (j : Int)) (fun s => (intOf s).toNat)
      case atStart => exact ⟨31, by omega, by omega, rfl⟩
      case round =>
        clear hd1 hd2
        obtain ⟨j, hj, hj2, rfl⟩ := hrel
        have ji : (j : Int) < 32 := by omega
        by_cases hlt2 : r < j
        · have hs : ((v : Int) / 2 ^ j == 0) = true := by rw [shr_int, shr_zero hv32 (fun t ht ht2 => HVL.out t (by omega) ht2)]; rfl
          have j1 : (1 : Int) ≤ j := by omega
          go_wp2_with fail
          go_round
          case rel => exact ⟨j - 1, by omega, by omega, by congr 1; omega⟩
          case measure => simp [intOf]; omega
        · obtain rfl : j = r := by omega
          have hs : ((v : Int) / 2 ^ j == 0) = false := by rw [shr_int]; exact decide_eq_false (shr_pos HVR.out)
          go_wp2_with fail
          go_ret
          have e : (Value.int .i64 ((q : Int) * 32 + (j : Int))) = intc rt := by rw [HRT.out]; go_num
          rw [e]
          exact ⟨rfl, Blk.new w [intc rt, intc bt] 3, (Kept.refl _ _).alloc _⟩
end

section
def colB (d : Nat) : Bool := decide (diag d = 1)
def tcN (d : Nat) : Nat := [0, 1, 2, 2, 2, 3, 4, 5].getD d 0
theorem tcN_step : ∀ p, p < 7 → (colB p = colB (p + 1) → tcN (p + 1) = tcN p) ∧ (colB p ≠ colB (p + 1) → tcN (p + 1) = tcN p + 1) := by decide
theorem tcN_few : ∀ p, p < 7 → tcN p ≤ 4 := by decide
/-- The module of the pixel before i. -/
def prevM (m i : Nat) : Nat := (i - 1) / m
theorem prev_two {m i : Nat} (hm : 0 < m) (hi : 0 < i) : i / m = prevM m i ∨ i / m = prevM m i + 1 := by
  unfold prevM
  obtain ⟨k, rfl⟩ : ∃ k, i = k + 1 := ⟨i - 1, by omega⟩
  rw [Nat.add_sub_cancel]
  have h1 : k / m ≤ (k + 1) / m := Nat.div_le_div_right (by omega)
  have h2 : (k + 1) / m ≤ k / m + 1 := by
    have := Nat.div_le_div_right (c := m) (show k + 1 ≤ k + m by omega)
    rw [Nat.add_div_right k hm] at this
    exact this
  omega
set_option maxRecDepth 100000 in
set_option maxHeartbeats 4000000 in
theorem moduleSize_c {w : World} {A G C W H rs n lp tp m : Nat} {ws : List Nat} {M : Nat → Nat → Int} (self : Value) (hA : Blk w A [intc lp, intc tp] 3) (hG : GM w G C W H rs ws (pix M n lp tp m W)) (hm1 : 1 ≤ m) (hm2 : m ≤ 13) (hn : 21 ≤ n)
    (hW : lp + n * m ≤ W) (hH : tp + n * m ≤ H) (hW9 : W ≤ 300) (hH9 : H ≤ 300) (hd : ∀ i, i < 8 → M i i = diag i) :
    Calls Tryz.prog 81 #[self, slv A 2 2, ptv G] w fun e w' => e = .returned (.tuple #[.float .f64 (fl m), .nilIface]) ∧ w = w' := by
  obtain ⟨z, hz⟩ : ∃ z, 7 * m = z := ⟨_, rfl⟩
  have h21 : 21 * m ≤ n * m := Nat.mul_le_mul_right m hn
  have hzW : lp + z < W := by omega
  have hzH : tp + z < H := by omega
  have hpx : ∀ i, i ≤ z → pix M n lp tp m W (tp + i) (lp + i) = colB (i / m) := fun i hi => by
    have hlt : i / m < 8 := (Nat.div_lt_iff_lt_mul hm1).2 (by omega)
    have := pix_at (M := M) (tp := tp) hm1 hW (show i / m < n by omega) (show i / m < n by omega) (Nat.mod_lt i hm1) (Nat.mod_lt i hm1)
    rw [show i / m * m + i % m = i by rw [Nat.mul_comm]; exact Nat.div_add_mod i m, hd _ hlt] at this
    exact this
  have hq : ∀ w, (binOp .quo 167 (.float .f64 (floatOfInt .f64 (z : Int))) (.float .f64 4619567317775286272)).run Tryz.prog w = .ok (.float .f64 (fl m)) w := fun w => run_float_arith w .quo 167 .f64 _ _ _ (by rw [← hz]; exact fl_seven m (by omega))
  have c0 := hA.at (i := 0) rfl
  have c1 := hA.at (i := 1) rfl
  have HG := Lib.hid hG
  have HZ := Lib.hid hz
  have HPX := Lib.hid hpx
  have zi : (z : Int) ≤ 91 := by omega
  have lpi : (lp : Int) + z < W := by omega
  have tpi : (tp : Int) + z < H := by omega
  have Wi : (W : Int) ≤ 300 := by omega
  have Hi : (H : Int) ≤ 300 := by omega
  clear hA hG hz hpx hd h21 hW hH
  go_enter Tryz.func81, Tryz.ntmps81
  go_wp2_with fail
  refine (gmHeight_c HG.out).mono ?_
  rintro e wx ⟨rfl, rfl⟩
  go_wp2_with fail
  refine (gmWidth_c HG.out).mono ?_
  rintro e wx ⟨rfl, rfl⟩
  go_wp2_with fail
  go_loop [10, 11, 12, 13] (fun s10 s11 s12 s13 => ∃ (i p t : Nat) (b : Bool), i ≤ z ∧ p = prevM m i ∧ b = colB p ∧ t = tcN p ∧ s10 = .int .i64 ((lp : Int) + i) ∧ s11 = .int .i64 ((tp : Int) + i) ∧ s12 = .bool b ∧ s13 = .int .i64 (t : Int)) (fun s _ _ _ => ((W : Int) - intOf s).toNat)
  case atStart => exact ⟨0, 0, 0, true, by omega, by simp [prevM], by decide, by decide, by simp, by simp, rfl, rfl⟩
  case round =>
    obtain ⟨i, p, t, b, hi, hp, hb, ht, rfl, rfl, rfl, rfl⟩ := hrel
    obtain ⟨d, hd⟩ : ∃ d, i / m = d := ⟨_, rfl⟩
    have hp7 : p < 7 := by rw [hp]; exact (Nat.div_lt_iff_lt_mul hm1).2 (by have := HZ.out; omega)
    have hdp : d = p ∨ d = p + 1 := by
      rcases Nat.eq_zero_or_pos i with h0 | h0
      · subst h0; left; rw [← hd, hp]; simp [prevM]
      · rw [← hd, hp]; exact prev_two hm1 h0
    have ii : (i : Int) ≤ z := by omega
    have HI := Lib.hid (show d = prevM m (i + 1) by rw [← hd]; simp [prevM])
    have ht4 : t ≤ 4 := by rw [ht]; exact tcN_few p hp7
    have ti : (t : Int) ≤ 4 := by omega
    have tne : ((t : Int) == 5) = false := by simp; omega
    by_cases hlt : i < z
    · have hd6 : d < 7 := by rw [← hd]; exact (Nat.div_lt_iff_lt_mul hm1).2 (by have := HZ.out; omega)
      obtain ⟨bd, hbd⟩ : ∃ bd, colB d = bd := ⟨_, rfl⟩
      have hget : Hid (Calls Tryz.prog 28 #[ptv G, .int .i64 ((lp : Int) + i), .int .i64 ((tp : Int) + i)] w fun e w' => e = .returned (.bool bd) ∧ w = w') := Lib.hid (by
        have := gmGet_c HG.out (show tp + i < H by omega) (show lp + i < W by omega) (by rw [HPX.out i hi, hd, hbd])
        rw [show ((lp + i : Nat) : Int) = (lp : Int) + i by omega, show ((tp + i : Nat) : Int) = (tp : Int) + i by omega] at this
        exact this)
      by_cases hbb : b = bd
      · have HT : Hid (t = tcN d) := Lib.hid (by
          rcases hdp with h | h
          · rw [h]; exact ht
          · rw [h, ht]; exact ((tcN_step p hp7).1 (by rw [← hb, ← h, hbd]; exact hbb)).symm)
        have HB : Hid (bd = colB d) := Lib.hid hbd.symm
        clear hbd hb hp ht hd hdp
        subst hbb
        cases b
        all_goals
          go_wp2_with fail
          refine hget.out.mono ?_
          rintro e wx ⟨rfl, rfl⟩
          go_wp2_with fail
          go_round
          case rel => exact ⟨i + 1, d, t, _, by omega, HI.out, HB.out, HT.out, by go_num, by go_num, rfl, rfl⟩
          case measure => simp [intOf]; omega
      · have hdp1 : d = p + 1 := by
          rcases hdp with h | h
          · exact absurd (by rw [hb, ← h, hbd]) hbb
          · exact h
        have HT : Hid (t + 1 = tcN d) := Lib.hid (by rw [hdp1, ht]; exact ((tcN_step p hp7).2 (by rw [← hb, ← hdp1, hbd]; exact hbb)).symm)
        have HB : Hid (bd = colB d) := Lib.hid hbd.symm
        have ht1 : t + 1 ≤ 4 := by rw [HT.out]; exact tcN_few d hd6
        have tne1 : ((t : Int) + 1 == 5) = false := by simp; omega
        clear hbd hb hp ht hd hdp hdp1
        cases b <;> cases bd
        · exact absurd rfl hbb
        · clear hbb
          go_wp2_with fail
          refine hget.out.mono ?_
          rintro e wx ⟨rfl, rfl⟩
          go_wp2_with fail
          go_round
          case rel => exact ⟨i + 1, d, t + 1, _, by omega, HI.out, HB.out, HT.out, by go_num, by go_num, rfl, by go_num⟩
          case measure => simp [intOf]; omega
        · clear hbb
          go_wp2_with fail
          refine hget.out.mono ?_
          rintro e wx ⟨rfl, rfl⟩
          go_wp2_with fail
          go_round
          case rel => exact ⟨i + 1, d, t + 1, _, by omega, HI.out, HB.out, HT.out, by go_num, by go_num, rfl, by go_num⟩
          case measure => simp [intOf]; omega
        · exact absurd rfl hbb
    · obtain rfl : i = z := by omega
      have hd7 : d = 7 := by rw [← hd, ← HZ.out]; exact Nat.mul_div_cancel 7 hm1
      have hp6 : p = 6 := by
        have h2 : p ≥ 6 := by omega
        omega
      subst hp6
      obtain rfl : b = true := hb
      obtain rfl : t = 4 := ht
      have hget : Hid (Calls Tryz.prog 28 #[ptv G, .int .i64 ((lp : Int) + i), .int .i64 ((tp : Int) + i)] w fun e w' => e = .returned (.bool false) ∧ w = w') := Lib.hid (by
        have := gmGet_c HG.out (show tp + i < H by omega) (show lp + i < W by omega) (b := false) (by rw [HPX.out i hi, hd, hd7]; decide)
        rw [show ((lp + i : Nat) : Int) = (lp : Int) + i by omega, show ((tp + i : Nat) : Int) = (tp : Int) + i by omega] at this
        exact this)
      have hsub : (lp : Int) + i - lp = i := by omega
      have n1 : (((lp : Int) + i) == (W : Int)) = false := by simp; omega
      have n2 : (((tp : Int) + i) == (H : Int)) = false := by simp; omega
      clear hp hd hd7 hdp HI
      go_wp2_with fail
      refine hget.out.mono ?_
      rintro e wx ⟨rfl, rfl⟩
      go_wp2_with fail
      go_ret2
      exact ⟨rfl, rfl⟩
end
end Go.Proofs.YtplpafbkalkchaaGreatDoor
