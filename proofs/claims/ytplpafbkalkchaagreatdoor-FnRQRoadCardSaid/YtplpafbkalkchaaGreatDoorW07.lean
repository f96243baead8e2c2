/- Plain laws: the field, values of polynomials; what a division leaves has the same values at the roots. The generators, one behind the other. (Printed by gen_r10.py.) Walks: one polynomial divided by another that begins with 1: what is left has the same values at its roots. -/
import Derived.Test.YtplpafbkalkchaaGreatDoorW05
import Derived.Test.YtplpafbkalkchaaGreatDoorW06
namespace Go.Proofs.YtplpafbkalkchaaGreatDoor
open Go Go.RowKit Go.Proofs
set_option linter.all false

section
set_option maxRecDepth 100000 in
theorem gstep_form : ∀ x, x < 256 → gstep x = 2 * x ^^^ (if x.testBit 7 then 285 else 0) := by decide
theorem two_xor (a b : Nat) : 2 * (a ^^^ b) = 2 * a ^^^ 2 * b := by
  have h := Nat.shiftLeft_xor_distrib (a := a) (b := b) (i := 1)
  simp only [Nat.shiftLeft_eq, Nat.pow_one] at h
  rw [Nat.mul_comm 2, Nat.mul_comm 2, Nat.mul_comm 2]; exact h
theorem xlc (a b c : Nat) : a ^^^ (b ^^^ c) = b ^^^ (a ^^^ c) := by rw [← Nat.xor_assoc, Nat.xor_comm a b, Nat.xor_assoc]
theorem xcancel (a b c : Nat) : (a ^^^ c) ^^^ (b ^^^ c) = a ^^^ b := by rw [Nat.xor_assoc, ← Nat.xor_assoc c b c, Nat.xor_comm c b, Nat.xor_assoc b c c, Nat.xor_self, Nat.xor_zero]
theorem xor_lt {a b : Nat} (ha : a < 256) (hb : b < 256) : a ^^^ b < 256 := Nat.xor_lt_two_pow (n := 8) ha hb
theorem gstep_xor (a b : Nat) (ha : a < 256) (hb : b < 256) : gstep (a ^^^ b) = gstep a ^^^ gstep b := by
  rw [gstep_form _ (xor_lt ha hb), gstep_form a ha, gstep_form b hb, two_xor, Nat.testBit_xor]
  cases a.testBit 7 <;> cases b.testBit 7
  · simp
  · simp [Nat.xor_assoc]
  · simp [Nat.xor_assoc, Nat.xor_comm, xlc]
  · simp only [Bool.xor_self, if_true]; rw [xcancel]; simp
theorem gstep_zero : gstep 0 = 0 := by decide
/-- i steps. -/
def steps : Nat → Nat → Nat
  | 0, x => x
  | i + 1, x => gstep (steps i x)
theorem gstep_bd (x : Nat) (h : x < 256) : gstep x < 256 := by
  unfold gstep
  split
  · exact Nat.lt_of_le_of_lt Nat.and_le_right (by decide)
  · omega
theorem steps_lt (i x : Nat) (h : x < 256) : steps i x < 256 := by
  induction i with
  | zero => exact h
  | succ i ih => exact gstep_bd _ ih
theorem steps_xor (i a b : Nat) (ha : a < 256) (hb : b < 256) : steps i (a ^^^ b) = steps i a ^^^ steps i b := by
  induction i with
  | zero => rfl
  | succ i ih => unfold steps; rw [ih, gstep_xor _ _ (steps_lt i a ha) (steps_lt i b hb)]
theorem steps_zero (i : Nat) : steps i 0 = 0 := by
  induction i with
  | zero => rfl
  | succ i ih => unfold steps; rw [ih, gstep_zero]
theorem exp_mod_step (n : Nat) : gexp ((n + 1) % 255) = gstep (gexp (n % 255)) := by
  by_cases h : n % 255 = 254
  · rw [show (n + 1) % 255 = 0 by omega, h, exp_zero, ← exp_step 254 (by omega), gexp255]
  · rw [show (n + 1) % 255 = n % 255 + 1 by omega, exp_step _ (by omega)]
theorem exp_steps (n i : Nat) : gexp ((n + i) % 255) = steps i (gexp (n % 255)) := by
  induction i with
  | zero => rfl
  | succ i ih => unfold steps; rw [← ih, ← exp_mod_step]; rfl
theorem gmul_steps (a b : Nat) (ha : a < 256) (ha1 : 1 ≤ a) (hb : b < 256) : gmul a b = steps (glog a) b := by
  by_cases h : b = 0
  · subst h; rw [steps_zero]; unfold gmul; simp
  · unfold gmul
    rw [if_neg (by omega), Nat.add_comm, exp_steps, Nat.mod_eq_of_lt (log_bd b hb), exp_log b hb (by omega)]
theorem gmul_zero_left (b : Nat) : gmul 0 b = 0 := by unfold gmul; simp
theorem gmul_zero (a : Nat) : gmul a 0 = 0 := by unfold gmul; simp
theorem gmul_xor (a b c : Nat) (ha : a < 256) (hb : b < 256) (hc : c < 256) : gmul a (b ^^^ c) = gmul a b ^^^ gmul a c := by
  by_cases h : a = 0
  · subst h; simp [gmul_zero_left]
  · rw [gmul_steps a _ ha (by omega) (xor_lt hb hc), gmul_steps a b ha (by omega) hb, gmul_steps a c ha (by omega) hc, steps_xor _ _ _ hb hc]
theorem gmul_comm (a b : Nat) : gmul a b = gmul b a := by
  unfold gmul
  by_cases h : a = 0 ∨ b = 0
  · rw [if_pos h, if_pos h.symm]
  · rw [if_neg h, if_neg (fun h2 => h h2.symm), Nat.add_comm]
theorem gmul_pos (a b : Nat) (ha1 : 1 ≤ a) (hb1 : 1 ≤ b) : gmul a b = gexp ((glog a + glog b) % 255) ∧ 1 ≤ gmul a b := by
  have h : gmul a b = gexp ((glog a + glog b) % 255) := by unfold gmul; rw [if_neg (by omega)]
  exact ⟨h, by rw [h]; exact (exp_bd _ (by omega)).2⟩
theorem glog_mul (a b : Nat) (ha1 : 1 ≤ a) (hb1 : 1 ≤ b) : glog (gmul a b) = (glog a + glog b) % 255 := by
  rw [(gmul_pos a b ha1 hb1).1]; exact log_exp _ (by omega)
theorem gmul_assoc (a b c : Nat) (ha : a < 256) (hb : b < 256) (hc : c < 256) : gmul (gmul a b) c = gmul a (gmul b c) := by
  by_cases h1 : a = 0
  · subst h1; simp [gmul_zero_left]
  by_cases h2 : b = 0
  · subst h2; simp [gmul_zero_left, gmul_zero]
  by_cases h3 : c = 0
  · subst h3; simp [gmul_zero]
  have p1 := gmul_pos a b (by omega) (by omega)
  have p2 := gmul_pos b c (by omega) (by omega)
  rw [(gmul_pos (gmul a b) c p1.2 (by omega)).1, (gmul_pos a (gmul b c) (by omega) p2.2).1, glog_mul a b (by omega) (by omega), glog_mul b c (by omega) (by omega)]
  congr 1
  omega
theorem gmul_one_right (a : Nat) (h : a < 256) : gmul a 1 = a := by rw [gmul_comm, gmul_one a h]
theorem ginv_one : ginv 1 = 1 := by decide
/-! values -/
theorem evalP_cons0 (cs : List Nat) (x : Nat) : evalP (0 :: cs) x = evalP cs x := by
  unfold evalP; rw [List.foldl_cons, gmul_zero]; rfl
theorem evalP_zeros (k : Nat) (cs : List Nat) (x : Nat) : evalP (List.replicate k 0 ++ cs) x = evalP cs x := by
  induction k with
  | zero => simp
  | succ k ih => rw [List.replicate_succ, List.cons_append, evalP_cons0, ih]
theorem evalP_strip (cs : List Nat) (x : Nat) : evalP (strip cs) x = evalP cs x := by
  induction cs with
  | nil => rfl
  | cons a r ih =>
    unfold strip
    split
    · rename_i h; rw [ih, h.1, evalP_cons0]
    · rfl
theorem evalP_tail0 (cs : List Nat) (d x : Nat) (h : evalP cs x = 0) : evalP (cs ++ List.replicate d 0) x = 0 := by
  induction d with
  | zero => simpa using h
  | succ d ih => rw [List.replicate_succ', ← List.append_assoc, evalP_snoc, ih, gmul_zero]; rfl
theorem evalP_scale (cs : List Nat) (c x : Nat) (hc : c < 256) (hx : x < 256) (hb : ∀ y ∈ cs, y < 256) : evalP (cs.map fun y => gmul y c) x = gmul c (evalP cs x) := by
  suffices H : ∀ n, ∀ cs : List Nat, cs.length = n → (∀ y ∈ cs, y < 256) → evalP (cs.map fun y => gmul y c) x = gmul c (evalP cs x) from H _ cs rfl hb
  intro n
  induction n with
  | zero => intro cs h _; rw [List.length_eq_zero_iff] at h; subst h; simp [evalP, gmul_zero]
  | succ n ih =>
    intro cs h hb
    obtain ⟨l, y, rfl⟩ : ∃ l y, cs = l ++ [y] := ⟨cs.dropLast, cs.getLast (by intro h2; subst h2; simp at h), by rw [List.dropLast_concat_getLast]⟩
    have hl : l.length = n := by simpa using h
    have hbl : ∀ z ∈ l, z < 256 := fun z hz => hb z (by simp [hz])
    have hy := hb y (by simp)
    have he := evalP_lt hbl x
    rw [List.map_append, List.map_cons, List.map_nil, evalP_snoc, evalP_snoc, ih l hl hbl, gmul_xor c _ _ hc (gmul_bd _ _) hy, ← gmul_assoc x c _ hx hc he, ← gmul_assoc c x _ hc hx he, gmul_comm x c, gmul_comm y c]
theorem evalP_zip (x : Nat) (hx : x < 256) : ∀ (s l : List Nat), s.length = l.length → (∀ y ∈ s, y < 256) → (∀ y ∈ l, y < 256) → evalP (List.zipWith (· ^^^ ·) s l) x = evalP s x ^^^ evalP l x := by
  suffices H : ∀ n, ∀ s l : List Nat, s.length = n → l.length = n → (∀ y ∈ s, y < 256) → (∀ y ∈ l, y < 256) → evalP (List.zipWith (· ^^^ ·) s l) x = evalP s x ^^^ evalP l x from
    fun s l h hs hl => H _ s l rfl h.symm hs hl
  intro n
  induction n with
  | zero => intro s l h1 h2 _ _; rw [List.length_eq_zero_iff] at h1 h2; subst h1; subst h2; simp [evalP]
  | succ n ih =>
    intro s l h1 h2 bs bl
    obtain ⟨s', a, rfl⟩ : ∃ l y, s = l ++ [y] := ⟨s.dropLast, s.getLast (by intro h; subst h; simp at h1), by rw [List.dropLast_concat_getLast]⟩
    obtain ⟨l', b, rfl⟩ : ∃ l' y, l = l' ++ [y] := ⟨l.dropLast, l.getLast (by intro h; subst h; simp at h2), by rw [List.dropLast_concat_getLast]⟩
    have e1 : s'.length = n := by simpa using h1
    have e2 : l'.length = n := by simpa using h2
    have bs' : ∀ z ∈ s', z < 256 := fun z hz => bs z (by simp [hz])
    have bl' : ∀ z ∈ l', z < 256 := fun z hz => bl z (by simp [hz])
    rw [List.zipWith_append (by rw [e1, e2]), List.zipWith_cons_cons, List.zipWith_nil_left, evalP_snoc, evalP_snoc, evalP_snoc, ih s' l' e1 e2 bs' bl', gmul_xor x _ _ hx (evalP_lt bs' x) (evalP_lt bl' x)]
    simp [Nat.xor_assoc, Nat.xor_comm, xlc]
theorem psum_zip (s l : List Nat) (h : s.length ≤ l.length) : psum s l = List.zipWith (· ^^^ ·) (List.replicate (l.length - s.length) 0 ++ s) l := by
  unfold psum
  conv => rhs; rw [← List.take_append_drop (l.length - s.length) l]
  rw [List.zipWith_append (by simp)]
  congr 1
  apply List.ext_getElem
  · simp
  · intro i h1 h2; simp
theorem rep_lt (k : Nat) (s : List Nat) (h : ∀ y ∈ s, y < 256) : ∀ y ∈ List.replicate k 0 ++ s, y < 256 := by
  intro y hy
  rcases List.mem_append.1 hy with hy | hy
  · simp at hy; omega
  · exact h y hy
theorem evalP_psum (s l : List Nat) (h : s.length ≤ l.length) (x : Nat) (hx : x < 256) (bs : ∀ y ∈ s, y < 256) (bl : ∀ y ∈ l, y < 256) : evalP (psum s l) x = evalP s x ^^^ evalP l x := by
  rw [psum_zip s l h, evalP_zip x hx _ _ (by simp; omega) (rep_lt _ s bs) bl, evalP_zeros]
theorem zip_lt {s l : List Nat} (bs : ∀ y ∈ s, y < 256) (bl : ∀ y ∈ l, y < 256) : ∀ y ∈ List.zipWith (· ^^^ ·) s l, y < 256 := by
  intro y hy
  rw [List.mem_iff_getElem] at hy
  obtain ⟨i, hi, rfl⟩ := hy
  simp at hi
  rw [List.getElem_zipWith]
  exact xor_lt (bs _ (List.getElem_mem _)) (bl _ (List.getElem_mem _))
theorem psum_lt {s l : List Nat} (h : s.length ≤ l.length) (bs : ∀ y ∈ s, y < 256) (bl : ∀ y ∈ l, y < 256) : ∀ y ∈ psum s l, y < 256 := by
  rw [psum_zip s l h]; exact zip_lt (rep_lt _ s bs) bl
theorem strip_lt {cs : List Nat} (h : ∀ y ∈ cs, y < 256) : ∀ y ∈ strip cs, y < 256 := by
  induction cs with
  | nil => simp [strip]
  | cons a r ih =>
    unfold strip
    split
    · exact ih (fun y hy => h y (by simp [hy]))
    · exact h
/-- No zero ahead, but for the lone zero. -/
def Norm (cs : List Nat) : Prop := cs ≠ [] ∧ (cs.length = 1 ∨ cs.getD 0 0 ≠ 0)
theorem strip_norm (cs : List Nat) (h : cs ≠ []) : Norm (strip cs) := by
  induction cs with
  | nil => exact absurd rfl h
  | cons a r ih =>
    unfold strip
    split
    · rename_i h; exact ih h.2
    · rename_i h2
      refine ⟨by simp, ?_⟩
      by_cases hr : r = []
      · left; subst hr; rfl
      · right; simp; intro ha; exact h2 ⟨ha, hr⟩
theorem strip_length (cs : List Nat) : (strip cs).length ≤ cs.length := by
  induction cs with
  | nil => simp [strip]
  | cons a r ih =>
    unfold strip
    split
    · simp; omega
    · exact Nat.le_refl _
theorem strip_shorter (cs : List Nat) (h2 : 2 ≤ cs.length) (h0 : cs.getD 0 0 = 0) : (strip cs).length < cs.length := by
  cases cs with
  | nil => simp at h2
  | cons a r =>
    have ha : a = 0 := by simpa using h0
    have hr : r ≠ [] := by intro h; subst h; simp at h2
    unfold strip
    rw [if_pos ⟨ha, hr⟩]
    have := strip_length r
    simp; omega
theorem norm_zero {cs : List Nat} (h : Norm cs) (hz : isZ cs = true) : cs = [0] := by
  have h0 : cs.getD 0 0 = 0 := by unfold isZ at hz; simpa using hz
  rcases h.2 with h1 | h1
  · match cs, h1 with
    | [a], _ => simp at h0; rw [h0]
  · exact absurd h0 h1
theorem isZ_false {cs : List Nat} : isZ cs = false ↔ cs.getD 0 0 ≠ 0 := by unfold isZ; simp
end

section
def gensLit : List (List Nat) := [[1], [1, 1], [1, 3, 2], [1, 7, 14, 8], [1, 15, 54, 120, 64], [1, 31, 198, 63, 147, 116], [1, 63, 1, 218, 32, 227, 38], [1, 127, 122, 154, 164, 11, 68, 117], [1, 255, 11, 81, 54, 239, 173, 200, 24], [1, 226, 207, 158, 245, 235, 164, 232, 197, 37], [1, 216, 194, 159, 111, 199, 94, 95, 113, 157, 193], [1, 172, 130, 163, 50, 123, 219, 162, 248, 144, 116, 160], [1, 68, 119, 67, 118, 220, 31, 7, 84, 92, 127, 213, 97], [1, 137, 73, 227, 17, 177, 17, 52, 13, 46, 43, 83, 132, 120], [1, 14, 54, 114, 70, 174, 151, 43, 158, 195, 127, 166, 210, 234, 163], [1, 29, 196, 111, 163, 112, 74, 10, 105, 105, 139, 132, 151, 32, 134, 26], [1, 59, 13, 104, 189, 68, 209, 30, 8, 163, 65, 41, 229, 98, 50, 36, 59], [1, 119, 66, 83, 120, 119, 22, 197, 83, 249, 41, 143, 134, 85, 53, 125, 99, 79], [1, 239, 251, 183, 113, 149, 175, 199, 215, 240, 220, 73, 82, 173, 75, 32, 67, 217, 146], [1, 194, 8, 26, 146, 20, 223, 187, 152, 85, 115, 238, 133, 146, 109, 173, 138, 33, 172, 179], [1, 152, 185, 240, 5, 111, 99, 6, 220, 112, 150, 69, 36, 187, 22, 228, 198, 121, 121, 165, 174], [1, 44, 243, 13, 131, 49, 132, 194, 67, 214, 28, 89, 124, 82, 158, 244, 37, 236, 142, 82, 255, 89], [1, 89, 179, 131, 176, 182, 244, 19, 189, 69, 40, 28, 137, 29, 123, 67, 253, 86, 218, 230, 26, 145, 245], [1, 179, 68, 154, 163, 140, 136, 190, 152, 25, 85, 19, 3, 196, 27, 113, 198, 18, 130, 2, 120, 93, 41, 71], [1, 122, 118, 169, 70, 178, 237, 216, 102, 115, 150, 229, 73, 130, 72, 61, 43, 206, 1, 237, 247, 127, 217, 144, 117], [1, 245, 49, 228, 53, 215, 6, 205, 210, 38, 82, 56, 80, 97, 139, 81, 134, 126, 168, 98, 226, 125, 23, 171, 173, 193], [1, 246, 51, 183, 4, 136, 98, 199, 152, 77, 56, 206, 24, 145, 40, 209, 117, 233, 42, 135, 68, 70, 144, 146, 77, 43, 94], [1, 240, 61, 29, 145, 144, 117, 150, 48, 58, 139, 94, 134, 193, 105, 33, 169, 202, 102, 123, 113, 195, 25, 213, 6, 152, 164, 217], [1, 252, 9, 28, 13, 18, 251, 208, 150, 103, 174, 100, 41, 167, 12, 247, 56, 117, 119, 233, 127, 181, 100, 121, 147, 176, 74, 58, 197], [1, 228, 193, 196, 48, 170, 86, 80, 217, 54, 143, 79, 32, 88, 255, 87, 24, 15, 251, 85, 82, 201, 58, 112, 191, 153, 108, 132, 143, 170], [1, 212, 246, 77, 73, 195, 192, 75, 98, 5, 70, 103, 177, 22, 217, 138, 51, 181, 246, 72, 25, 18, 46, 228, 74, 216, 195, 11, 106, 130, 150]]
def gen (d : Nat) : List Nat := gensLit.getD d []
def genFine (g : List Nat) (d : Nat) : Bool := g.length == d + 1 && g.getD 0 0 == 1 && g.all (fun y => decide (y < 256)) && (List.range d).all fun i => evalP g (gexp i) == 0
set_option maxRecDepth 1000000 in
theorem gens_fine : ∀ d, d < 31 → genFine (gen d) d = true := by decide
set_option maxRecDepth 1000000 in
theorem gens_step : ∀ d, d < 30 → gen (d + 1) = pmul (gen d) [1, gexp d] := by decide
theorem gen_len (d : Nat) (h : d < 31) : (gen d).length = d + 1 := by
  have := gens_fine d h; unfold genFine at this; simp only [Bool.and_eq_true, beq_iff_eq] at this; exact this.1.1.1
theorem gen_head (d : Nat) (h : d < 31) : (gen d).getD 0 0 = 1 := by
  have := gens_fine d h; unfold genFine at this; simp only [Bool.and_eq_true, beq_iff_eq] at this; exact this.1.1.2
theorem gen_lt (d : Nat) (h : d < 31) : ∀ y ∈ gen d, y < 256 := by
  have := gens_fine d h; unfold genFine at this; simp only [Bool.and_eq_true, List.all_eq_true, decide_eq_true_eq] at this; exact this.1.2
theorem gen_root (d : Nat) (h : d < 31) (i : Nat) (hi : i < d) : evalP (gen d) (gexp i) = 0 := by
  have := gens_fine d h; unfold genFine at this; simp only [Bool.and_eq_true, List.all_eq_true, beq_iff_eq] at this; exact this.2 i (List.mem_range.2 hi)
end

section
/-- What is left of a, so far. -/
structure Rest (a b r : List Nat) : Prop where
  norm : Norm r
  lt : ∀ y ∈ r, y < 256
  len : r.length ≤ a.length
  val : ∀ x, x < 256 → evalP b x = 0 → evalP r x = evalP a x
theorem padd_lt {a b : List Nat} (ha : ∀ y ∈ a, y < 256) (hb : ∀ y ∈ b, y < 256) : ∀ y ∈ padd a b, y < 256 := by
  unfold padd
  split
  · exact hb
  split
  · exact ha
  split
  · rename_i h; exact strip_lt (psum_lt h ha hb)
  · rename_i h; exact strip_lt (psum_lt (by omega) hb ha)
theorem padd_len (a b : List Nat) : (padd a b).length ≤ max a.length b.length := by
  unfold padd
  split
  · omega
  split
  · omega
  split
  · rename_i h; have := strip_length (psum a b); rw [psum_len a b h] at this; omega
  · rename_i h; have := strip_length (psum b a); rw [psum_len b a (by omega)] at this; omega
theorem mono_lt (d c : Nat) (hc : c < 256) : ∀ y ∈ mono d c, y < 256 := by
  intro y hy
  unfold mono at hy
  split at hy
  · simp at hy; omega
  · simp at hy; omega
theorem mono_len (d c : Nat) : (mono d c).length ≤ d + 1 := by unfold mono; split <;> simp
theorem scaled_lt (b : List Nat) (d c : Nat) : ∀ y ∈ scaled b d c, y < 256 := by
  intro y hy
  unfold scaled at hy
  rcases List.mem_append.1 hy with hy | hy
  · rw [List.mem_map] at hy; obtain ⟨z, _, rfl⟩ := hy; exact gmul_bd _ _
  · simp at hy; omega
theorem Rest.step {a b r : List Nat} (h : Rest a b r) (hb : ∀ y ∈ b, y < 256) (hb1 : b.getD 0 0 = 1) (hb2 : 2 ≤ b.length) (hle : b.length ≤ r.length) (hz : isZ r = false) :
    mulMono b (r.length - b.length) (r.getD 0 0) = scaled b (r.length - b.length) (r.getD 0 0) ∧
    Rest a b (padd r (mulMono b (r.length - b.length) (r.getD 0 0))) ∧ (padd r (mulMono b (r.length - b.length) (r.getD 0 0))).length < r.length := by
  have hr0 := isZ_false.1 hz
  have hr9 := getD_lt256 h.lt 0
  obtain ⟨c, hc⟩ : ∃ c, r.getD 0 0 = c := ⟨_, rfl⟩
  rw [hc] at hr0 hr9 ⊢
  obtain ⟨d, hd⟩ : ∃ d, r.length - b.length = d := ⟨_, rfl⟩
  rw [hd]
  have hs0 : (scaled b d c).getD 0 0 = c := by rw [scaled_at b d c 0 (by omega), hb1, gmul_comm, gmul_one_right c hr9]
  have hm : mulMono b d c = scaled b d c := by
    unfold mulMono
    rw [if_neg hr0, strip_one]
    · intro he; have h2 := congrArg List.length he; rw [scaled_len, List.length_nil] at h2; omega
    · right; rw [hs0]; exact hr0
  have hsl : (scaled b d c).length = r.length := by rw [scaled_len]; omega
  have hsz : isZ (scaled b d c) = false := isZ_false.2 (by rw [hs0]; exact hr0)
  have hp : padd r (scaled b d c) = strip (psum r (scaled b d c)) := by unfold padd; rw [hz, hsz, if_pos (show r.length ≤ (scaled b d c).length by omega)]; rfl
  have hp0 : (psum r (scaled b d c)).getD 0 0 = 0 := by
    rw [psum_hi r _ (by omega) 0 (by omega) (by omega), hs0, show 0 - ((scaled b d c).length - r.length) = 0 by omega, hc, Nat.xor_self]
  have hpl := psum_len r (scaled b d c) (by omega)
  have hlt := strip_shorter (psum r (scaled b d c)) (by omega) hp0
  rw [hm, hp]
  refine ⟨rfl, ⟨strip_norm _ (by intro he; rw [he] at hpl; simp at hpl; omega), strip_lt (psum_lt (by omega) h.lt (scaled_lt b d c)), by have := h.len; omega, fun x hx hv => ?_⟩, by omega⟩
  rw [evalP_strip, evalP_psum r _ (by omega) x hx h.lt (scaled_lt b d c), h.val x hx hv]
  have : evalP (scaled b d c) x = 0 := evalP_tail0 _ _ _ (by rw [evalP_scale b c x hr9 hx hb, hv, gmul_zero])
  rw [this, Nat.xor_zero]
theorem coef_top' {w : World} {P F : Nat} {cs : List Nat} (h : PL w P F cs) (hl : cs.length ≤ 1000) (d : Nat) (hd : cs.length - 1 = d) : Calls Tryz.prog 214 #[ptv P, num d] w fun e w' => e = .returned (num (cs.getD 0 0)) ∧ ∃ n, w' = w.drewN n := by
  subst hd; exact coef_top h hl
theorem lead_one (c : Nat) (h : c < 256) : gmul c (ginv 1) = c := by rw [ginv_one, gmul_one_right c h]
set_option maxRecDepth 100000 in
set_option maxHeartbeats 4000000 in
theorem divide_c {w : World} {F lo PA PB : Nat} {a b : List Nat} (h : GF w F lo) (hA : PL w PA F a) (hB : PL w PB F b) (na : Norm a) (la : a.length ≤ 200) (lb : b.length ≤ 200) (ba : ∀ x ∈ a, x < 256) (bb : ∀ x ∈ b, x < 256)
    (hb1 : b.getD 0 0 = 1) (hb2 : 2 ≤ b.length) :
    Calls Tryz.prog 176 #[ptv PA, ptv PB] w fun e w' => (∃ Q R r, e = .returned (.tuple #[ptv Q, ptv R, .nilIface]) ∧ PL w' R F r ∧ Rest a b r ∧ (r.length < b.length ∨ isZ r = true)) ∧ Kept [] w w' := by
  have HB1 := Lib.hid hb1
  have HZB : Hid (isZ b = false) := Lib.hid (isZ_false.2 (by rw [hb1]; decide))
  have HG := Lib.hid h
  have HA := Lib.hid hA
  have HB := Lib.hid hB
  have HBB := Lib.hid bb
  obtain ⟨Ca, oa, a1, a2, XA⟩ := hA.opens
  obtain ⟨Cb, ob, b1, b2, XB⟩ := hB.opens
  have fa := (XA.out w (Kept.refl _ _)).1
  have fb := (XB.out w (Kept.refl _ _)).1
  have hneq := fun (W : World) => neq_field W ⟨F, 0, none⟩
  have HR0 : Hid (Rest a b a) := Lib.hid ⟨na, ba, Nat.le_refl _, fun _ _ _ => rfl⟩
  obtain ⟨m, hm⟩ : ∃ m, b.length - 1 = m := ⟨_, rfl⟩
  have hmi : (m : Int) ≤ 200 := by omega
  have HM := Lib.hid hm
  clear h hA hB bb ba na hb1 hm
  go_enter Tryz.func176, Tryz.ntmps176
  go_wp2_with fail
  go_quiet (fail)
  have k1 : Kept [] w (w.drewN nq) := (Kept.refl _ _).drewN _
  generalize w.drewN nq = w1 at k1 ⊢
  clear hneq fa fb
  go_wp2_with fail
  refine (isZero_c (HB.out.kept k1)).mono ?_
  rintro e wx ⟨rfl, rfl⟩
  rw [HZB.out]
  have ga := (XA.out w1 k1).1
  go_wp2_with fail
  refine (zero_c (HG.out.kept0 k1)).mono ?_
  rintro e wx ⟨rfl, rfl⟩
  go_wp2_with fail
  refine (degree_c (HB.out.kept k1) (by omega)).mono ?_
  rintro e wx ⟨rfl, rfl⟩
  rw [HM.out]
  go_wp2_with fail
  refine (coef_top' (HB.out.kept k1) (by omega) m HM.out).mono ?_
  rintro e wx ⟨rfl, n2, rfl⟩
  have k2 : Kept [] w (w1.drewN n2) := k1.drewN _
  generalize w1.drewN n2 = w2 at k2 ⊢
  rw [HB1.out]
  clear ga
  have ga := (XA.out w2 k2).1
  go_wp2_with fail
  refine (inv_c (HG.out.kept0 k2) 1 (by omega) (by omega)).mono ?_
  rintro e w3 ⟨rfl, k3⟩
  have k4 := k2.trans0 k3
  clear ga
  go_wp2_with fail
  have HZP : Hid (PL w3 (lo + 4) F [0]) := Lib.hid ⟨_, by have h1 := (HG.out.kept0 k4).zero; rw [(HG.out).at_]; exact h1⟩
  go_loopg [4, 5] a.length (fun m sq sr wr => ∃ (Q R : Nat) (q r : List Nat), sq = ptv Q ∧ sr = ptv R ∧ Hid (PL wr Q F q) ∧ Hid (PL wr R F r) ∧ Hid (∀ y ∈ q, y < 256) ∧ q.length ≤ 201 ∧ Hid (Rest a b r) ∧ r.length ≤ m ∧ Kept [] w wr)
  case atStart => exact ⟨lo + 4, PA, [0], a, rfl, rfl, HZP, Lib.hid (HA.out.kept k4), Lib.hid (by simp), by simp, HR0, Nat.le_refl _, k4⟩
  case round =>
    obtain ⟨Q, R, q, r, rfl, rfl, HQ, HR, HQL, hql, HRS, hrm, hkr⟩ := hrel
    have hrl := HRS.out.len
    have hr1 : 1 ≤ r.length := by
      have := HRS.out.norm.1
      cases r with
      | nil => exact absurd rfl this
      | cons x y => simp
    have hrli : (r.length : Int) ≤ 200 := by omega
    have hbli : (b.length : Int) ≤ 200 := by omega
    have hb2i : (2 : Int) ≤ b.length := by omega
    have hr1i : (1 : Int) ≤ r.length := by omega
    obtain ⟨n, hn⟩ : ∃ n, r.length - 1 = n := ⟨_, rfl⟩
    have hni : (n : Int) ≤ 200 := by omega
    have HN := Lib.hid hn
    clear hn
    by_cases hle : b.length ≤ r.length
    · have hge : decide (m ≤ n) = true := by rw [decide_eq_true_iff]; have := HN.out; have := HM.out; omega
      cases hzr : isZ r with
      | true =>
        have HZR := Lib.hid hzr
        clear hzr
        go_wp2_with fail
        refine (degree_c HR.out (by omega)).mono ?_
        rintro e wx ⟨rfl, rfl⟩
        rw [HN.out]
        go_wp2_with fail
        refine (degree_c (HB.out.kept hkr) (by omega)).mono ?_
        rintro e wx ⟨rfl, rfl⟩
        rw [HM.out]
        go_wp2_with fail
        refine (isZero_c HR.out).mono ?_
        rintro e wx ⟨rfl, rfl⟩
        rw [HZR.out]
        go_wp2_with fail
        go_ret3
        exact ⟨⟨Q, R, r, rfl, HR.out, HRS.out, .inr HZR.out⟩, hkr⟩
      | false =>
        have HZR := Lib.hid hzr
        have HST := Lib.hid (HRS.out.step HBB.out HB1.out hb2 hle hzr)
        have hc9 := getD_lt256 HRS.out.lt 0
        obtain ⟨c, hc⟩ : ∃ c, r.getD 0 0 = c := ⟨_, rfl⟩
        rw [hc] at HST hc9
        have HC := Lib.hid hc
        clear hzr hc
        obtain ⟨d, hd⟩ : ∃ d, r.length - b.length = d := ⟨_, rfl⟩
        rw [hd] at HST
        have hd9 : d ≤ 200 := by omega
        have hsub : (n : Int) - (m : Int) = (d : Int) := by have := HN.out; have := HM.out; omega
        have hdi : (d : Int) ≤ 200 := by omega
        have HLO := Lib.hid (lead_one c hc9)
        have HRl := HRS.out.len
        clear hd
        go_wp2_with fail
        refine (degree_c HR.out (by omega)).mono ?_
        rintro e wx ⟨rfl, rfl⟩
        rw [HN.out]
        go_wp2_with fail
        refine (degree_c (HB.out.kept hkr) (by omega)).mono ?_
        rintro e wx ⟨rfl, rfl⟩
        rw [HM.out]
        go_wp2_with fail
        refine (isZero_c HR.out).mono ?_
        rintro e wx ⟨rfl, rfl⟩
        rw [HZR.out]
        go_wp2_with fail
        refine (degree_c HR.out (by omega)).mono ?_
        rintro e wx ⟨rfl, rfl⟩
        rw [HN.out]
        go_wp2_with fail
        refine (degree_c (HB.out.kept hkr) (by omega)).mono ?_
        rintro e wx ⟨rfl, rfl⟩
        rw [HM.out]
        have ga := (XA.out wr hkr).1
        go_wp2_with fail
        go_quiet ((first
          | exact quiet_same (degree_c (HR.out.kept ((Kept.refl [] wr).drewN _)) (by omega))
          | exact Calls.quiet_of (coef_top (HR.out.kept ((Kept.refl [] wr).drewN _)) (by omega))
          | exact Calls.quiet_of (mul_c ((HG.out.kept0 hkr).kept0 ((Kept.refl [] wr).drewN _)) (r.getD 0 0) (ginv 1) (by rw [HC.out]; exact hc9) (by decide))))
        rw [HC.out, HLO.out]
        have k5 : Kept [] wr (wr.drewN nq) := (Kept.refl _ _).drewN _
        generalize wr.drewN nq = w5 at k5 ⊢
        have k6 := hkr.trans0 k5
        clear ga hsub
        go_wp2_with fail
        refine (mulMono_c (HG.out.kept0 k6) (HB.out.kept k6) (by omega) HBB.out d c hd9 hc9).mono ?_
        rintro e w6 ⟨⟨T, rfl, hT⟩, k7⟩
        have k8 := k6.trans0 k7
        have HTT := Lib.hid hT
        clear hT
        have ga := (XA.out w6 k8).1
        go_wp2_with fail
        refine (mono_c (HG.out.kept0 k8) d c (by omega) hc9).mono ?_
        rintro e w7 ⟨⟨M, rfl, hM⟩, k9⟩
        have k10 := k8.trans0 k9
        have HMM := Lib.hid hM
        clear hM ga
        have hml := mono_len d c
        go_wp2_with fail
        refine (addPoly_c (((HQ.out.kept k5).kept k7).kept k9) HMM.out (by omega) (by omega) HQL.out (mono_lt d c hc9)).mono ?_
        rintro e w8 ⟨⟨Q2, rfl, hQ2⟩, k11⟩
        have HQ2 := Lib.hid hQ2
        clear hQ2
        have hlt : (mulMono b d c).length ≤ 500 ∧ (∀ y ∈ mulMono b d c, y < 256) := by
          rw [HST.out.1]
          exact ⟨by rw [scaled_len]; omega, scaled_lt _ _ _⟩
        have HLT := Lib.hid hlt
        clear hlt
        go_wp2_with fail
        refine (addPoly_c ((((HR.out.kept k5).kept k7).kept k9).kept k11) ((HTT.out.kept k9).kept k11) (by omega) HLT.out.1 HRS.out.lt HLT.out.2).mono ?_
        rintro e w9 ⟨⟨R2, rfl, hR2⟩, k12⟩
        have HR2 := Lib.hid hR2
        clear hR2
        have hfin : (padd q (mono d c)).length ≤ 201 := by
          have := padd_len q (mono d c)
          omega
        go_wp2_with fail
        go_roundg (gk - 1)
        case measure => have := HST.out.2.2; omega
        case rel =>
          exact ⟨Q2, R2, _, _, rfl, rfl, Lib.hid (HQ2.out.kept k12), HR2, Lib.hid (padd_lt HQL.out (mono_lt d c hc9)), hfin, Lib.hid HST.out.2.1, by have := HST.out.2.2; omega, (k10.trans0 k11).trans0 k12⟩
    · have hge : decide (m ≤ n) = false := by rw [decide_eq_false_iff_not]; have := HN.out; have := HM.out; omega
      have HLE := Lib.hid hle
      go_wp2_with fail
      refine (degree_c HR.out (by omega)).mono ?_
      rintro e wx ⟨rfl, rfl⟩
      rw [HN.out]
      go_wp2_with fail
      refine (degree_c (HB.out.kept hkr) (by omega)).mono ?_
      rintro e wx ⟨rfl, rfl⟩
      rw [HM.out]
      go_wp2_with fail
      go_ret3
      exact ⟨⟨Q, R, r, rfl, HR.out, HRS.out, .inl (by have := HLE.out; omega)⟩, hkr⟩
end
end Go.Proofs.YtplpafbkalkchaaGreatDoor
