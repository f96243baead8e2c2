/- The field of 256 elements, by its two tables; its laws; polynomials as lists of their numbers, the highest first. Walks: the field in memory; polynomials in memory; the small methods. Walks: a polynomial is made. Walks: inverse, monomials, sums of polynomials. -/
import Derived.Lib.BitFns
import Derived.Test.YtplpafbkalkchaaGreatDoorW01
namespace Go.Proofs.YtplpafbkalkchaaGreatDoor
open Go Go.RowKit Go.Proofs
set_option linter.all false

section
/-- The powers of 2. -/
def expLit : List Nat := [1, 2, 4, 8, 16, 32, 64, 128, 29, 58, 116, 232, 205, 135, 19, 38, 76, 152, 45, 90, 180, 117, 234, 201, 143, 3, 6, 12, 24, 48, 96, 192, 157, 39, 78, 156, 37, 74, 148, 53, 106, 212, 181, 119, 238, 193, 159, 35, 70, 140, 5, 10, 20, 40, 80, 160, 93, 186, 105, 210, 185, 111, 222, 161, 95, 190, 97, 194, 153, 47, 94, 188, 101, 202, 137, 15, 30, 60, 120, 240, 253, 231, 211, 187, 107, 214, 177, 127, 254, 225, 223, 163, 91, 182, 113, 226, 217, 175, 67, 134, 17, 34, 68, 136, 13, 26, 52, 104, 208, 189, 103, 206, 129, 31, 62, 124, 248, 237, 199, 147, 59, 118, 236, 197, 151, 51, 102, 204, 133, 23, 46, 92, 184, 109, 218, 169, 79, 158, 33, 66, 132, 21, 42, 84, 168, 77, 154, 41, 82, 164, 85, 170, 73, 146, 57, 114, 228, 213, 183, 115, 230, 209, 191, 99, 198, 145, 63, 126, 252, 229, 215, 179, 123, 246, 241, 255, 227, 219, 171, 75, 150, 49, 98, 196, 149, 55, 110, 220, 165, 87, 174, 65, 130, 25, 50, 100, 200, 141, 7, 14, 28, 56, 112, 224, 221, 167, 83, 166, 81, 162, 89, 178, 121, 242, 249, 239, 195, 155, 43, 86, 172, 69, 138, 9, 18, 36, 72, 144, 61, 122, 244, 245, 247, 243, 251, 235, 203, 139, 11, 22, 44, 88, 176, 125, 250, 233, 207, 131, 27, 54, 108, 216, 173, 71, 142, 1]
/-- Which power of 2 an element is. -/
def logLit : List Nat := [0, 0, 1, 25, 2, 50, 26, 198, 3, 223, 51, 238, 27, 104, 199, 75, 4, 100, 224, 14, 52, 141, 239, 129, 28, 193, 105, 248, 200, 8, 76, 113, 5, 138, 101, 47, 225, 36, 15, 33, 53, 147, 142, 218, 240, 18, 130, 69, 29, 181, 194, 125, 106, 39, 249, 185, 201, 154, 9, 120, 77, 228, 114, 166, 6, 191, 139, 98, 102, 221, 48, 253, 226, 152, 37, 179, 16, 145, 34, 136, 54, 208, 148, 206, 143, 150, 219, 189, 241, 210, 19, 92, 131, 56, 70, 64, 30, 66, 182, 163, 195, 72, 126, 110, 107, 58, 40, 84, 250, 133, 186, 61, 202, 94, 155, 159, 10, 21, 121, 43, 78, 212, 229, 172, 115, 243, 167, 87, 7, 112, 192, 247, 140, 128, 99, 13, 103, 74, 222, 237, 49, 197, 254, 24, 227, 165, 153, 119, 38, 184, 180, 124, 17, 68, 146, 217, 35, 32, 137, 46, 55, 63, 209, 91, 149, 188, 207, 205, 144, 135, 151, 178, 220, 252, 190, 97, 242, 86, 211, 171, 20, 42, 93, 158, 132, 60, 57, 83, 71, 109, 65, 162, 31, 45, 67, 216, 183, 123, 164, 118, 196, 23, 73, 236, 127, 12, 111, 246, 108, 161, 59, 82, 41, 157, 85, 170, 251, 96, 134, 177, 187, 204, 62, 90, 203, 89, 95, 176, 156, 169, 160, 81, 11, 245, 22, 235, 122, 117, 44, 215, 79, 174, 213, 233, 230, 231, 173, 232, 116, 214, 244, 234, 168, 80, 88, 175]
def gexp (i : Nat) : Nat := expLit.getD i 0
def glog (a : Nat) : Nat := logLit.getD a 0
def gmul (a b : Nat) : Nat := if a = 0 ∨ b = 0 then 0 else gexp ((glog a + glog b) % 255)
def ginv (a : Nat) : Nat := gexp (256 - glog a - 1)
def gstep (x : Nat) : Nat := if 256 ≤ 2 * x then (2 * x ^^^ 285) &&& 255 else 2 * x
set_option maxRecDepth 100000 in
theorem exp_step : ∀ i, i < 255 → gexp (i + 1) = gstep (gexp i) := by decide
theorem exp_zero : gexp 0 = 1 := by decide
set_option maxRecDepth 100000 in
theorem exp_bd : ∀ i, i < 256 → gexp i < 256 ∧ 1 ≤ gexp i := by decide
set_option maxRecDepth 100000 in
theorem log_bd : ∀ i, i < 256 → glog i < 255 := by decide
set_option maxRecDepth 100000 in
theorem exp_log : ∀ a, a < 256 → 1 ≤ a → gexp (glog a) = a := by decide
set_option maxRecDepth 100000 in
theorem log_exp : ∀ i, i < 255 → glog (gexp i) = i := by decide
theorem gexp255 : gexp 255 = 1 := by decide
end

section
abbrev num (n : Nat) : Value := .int .i64 (n : Int)
/-- A polynomial over the field at F: its numbers, the highest first, stand at the end of a block. -/
def PLc (w : World) (P F C : Nat) (cs : List Nat) : Prop :=
  cs ≠ [] ∧ ∃ (o : Nat) (l : List Nat), Blk w P [ptv F, .slice (some ⟨C, o, none⟩) cs.length cs.length] 309 ∧ Blk w C (l.map num) 3 ∧ l.drop o = cs ∧ o + cs.length = l.length ∧ F ≤ C
def PL (w : World) (P F : Nat) (cs : List Nat) : Prop := ∃ C, PLc w P F C cs
theorem PLc.keptS {w w' : World} {P F C : Nat} {cs : List Nat} {S : List Nat} (h : PLc w P F C cs) (hk : Kept S w w') (h1 : P ∉ S) (h2 : C ∉ S) : PLc w' P F C cs := by
  obtain ⟨hne, o, l, a, b, c, d⟩ := h
  exact ⟨hne, o, l, hk.blk a h1, hk.blk b h2, c, d⟩
theorem PL.kept {w w' : World} {P F : Nat} {cs : List Nat} (h : PL w P F cs) (hk : Kept [] w w') : PL w' P F cs := by
  obtain ⟨C, h⟩ := h
  exact ⟨C, h.keptS hk (by simp) (by simp)⟩
theorem PLc.cell {w : World} {P F C : Nat} {cs : List Nat} {o : Nat} {l : List Nat} (hb : Blk w C (l.map num) 3) (hd : l.drop o = cs) (i : Nat) (x : Nat) (hx : cs[i]? = some x) : w.cell? ⟨C, o + i, none⟩ = some (num x) := by
  apply hb.at
  rw [← hd, List.getElem?_drop] at hx
  rw [List.getElem?_map, hx]; rfl
/-- The field: its tables and its two constants, all of them in the blocks lo .. lo + 6. -/
structure GF (w : World) (F : Nat) (lo : Nat) : Prop where
  at_ : F = lo
  self : Blk w lo [slv (lo + 1) 256 256, slv (lo + 2) 256 256, ptv (lo + 4), ptv (lo + 6), num 256, num 285, num 0] 267
  exp : Blk w (lo + 1) (expLit.map num) 3
  log : Blk w (lo + 2) (logLit.map num) 3
  zero : PLc w (lo + 4) lo (lo + 3) [0]
  one : PLc w (lo + 6) lo (lo + 5) [1]
theorem GF.kept {w w' : World} {F lo : Nat} {S : List Nat} (h : GF w F lo) (hk : Kept S w w') (hS : ∀ x ∈ S, x < lo ∨ lo + 7 ≤ x) : GF w' F lo := by
  have hn : ∀ x, lo ≤ x → x < lo + 7 → x ∉ S := fun x h1 h2 hx => by have := hS x hx; omega
  exact ⟨h.at_, hk.blk h.self (hn _ (by omega) (by omega)), hk.blk h.exp (hn _ (by omega) (by omega)), hk.blk h.log (hn _ (by omega) (by omega)),
    h.zero.keptS hk (hn _ (by omega) (by omega)) (hn _ (by omega) (by omega)), h.one.keptS hk (hn _ (by omega) (by omega)) (hn _ (by omega) (by omega))⟩
theorem GF.kept0 {w w' : World} {F lo : Nat} (h : GF w F lo) (hk : Kept [] w w') : GF w' F lo := h.kept hk (by simp)
theorem tab_get (l : List Nat) (i : Nat) (h : i < l.length) : (l.map num)[i]? = some (num (l.getD i 0)) := by
  rw [List.getElem?_map, List.getD_eq_getElem?_getD, List.getElem?_eq_getElem h]; rfl
set_option maxRecDepth 100000 in
theorem expLen : expLit.length = 256 := by rfl
set_option maxRecDepth 100000 in
theorem logLen : logLit.length = 256 := by rfl
theorem GF.expAt {w : World} {F lo : Nat} (h : GF w F lo) (i : Nat) (hi : i < 256) : w.cell? ⟨lo + 1, i, none⟩ = some (num (gexp i)) := h.exp.at (tab_get _ i (by rw [expLen]; exact hi))
theorem GF.logAt {w : World} {F lo : Nat} (h : GF w F lo) (i : Nat) (hi : i < 256) : w.cell? ⟨lo + 2, i, none⟩ = some (num (glog i)) := h.log.at (tab_get _ i (by rw [logLen]; exact hi))
theorem base_c {w : World} {F lo : Nat} (h : GF w F lo) : Calls Tryz.prog 209 #[ptv F] w fun e w' => e = .returned (num 0) ∧ w = w' := by
  have h1 := h.self.at (i := 6) rfl
  obtain rfl := h.at_
  clear h
  go_enter Tryz.func209, Tryz.ntmps209
  go_wp2
  go_ret
  exact ⟨rfl, rfl⟩
theorem zero_c {w : World} {F lo : Nat} (h : GF w F lo) : Calls Tryz.prog 211 #[ptv F] w fun e w' => e = .returned (ptv (lo + 4)) ∧ w = w' := by
  have h1 := h.self.at (i := 2) rfl
  obtain rfl := h.at_
  clear h
  go_enter Tryz.func211, Tryz.ntmps211
  go_wp2
  go_ret
  exact ⟨rfl, rfl⟩
theorem exp_c {w : World} {F lo : Nat} (h : GF w F lo) (x : Int) (i : Nat) (hx : x = i) (hi : i < 256) : Calls Tryz.prog 208 #[ptv F, .int .i64 x] w fun e w' => e = .returned (num (gexp i)) ∧ w = w' := by
  subst hx
  have h1 := h.self.at (i := 0) rfl
  have h2 := h.expAt i hi
  obtain rfl := h.at_
  have hii : (i : Int) < 256 := by omega
  clear h
  go_enter Tryz.func208, Tryz.ntmps208
  go_wp2
  go_ret
  exact ⟨rfl, rfl⟩
theorem gmul_bd (a b : Nat) : gmul a b < 256 := by
  unfold gmul
  split
  · omega
  · exact (exp_bd _ (by omega)).1
set_option maxRecDepth 100000 in
theorem mul_c {w : World} {F lo : Nat} (h : GF w F lo) (a b : Nat) (ha : a < 256) (hb : b < 256) : Calls Tryz.prog 212 #[ptv F, num a, num b] w fun e w' => e = .returned (num (gmul a b)) ∧ ∃ n, w' = w.drewN n := by
  by_cases h0 : a = 0
  · subst h0
    have HG := Lib.hid (show gmul 0 b = 0 by unfold gmul; simp)
    clear h
    go_enter Tryz.func212, Tryz.ntmps212
    go_wp2
    go_ret
    exact ⟨by rw [HG.out]; rfl, 0, rfl⟩
  by_cases h0' : b = 0
  · subst h0'
    have HG := Lib.hid (show gmul a 0 = 0 by unfold gmul; simp)
    have ha0 : ((a : Int) == 0) = false := by simp; omega
    clear h
    go_enter Tryz.func212, Tryz.ntmps212
    go_wp2
    go_ret
    exact ⟨by rw [HG.out]; rfl, 0, rfl⟩
  · have ha0 : ((a : Int) == 0) = false := by simp; omega
    have hb0 : ((b : Int) == 0) = false := by simp; omega
    have HG := Lib.hid (show gmul a b = gexp ((glog a + glog b) % 255) by unfold gmul; rw [if_neg (by omega)])
    have c0 := h.self.at (i := 0) rfl
    have c1 := h.self.at (i := 1) rfl
    have c4 := h.self.at (i := 4) rfl
    have l1 := h.logAt a ha
    have l2 := h.logAt b hb
    have hla := log_bd a ha
    have hlb := log_bd b hb
    have x1 := h.expAt ((glog a + glog b) % 255) (by omega)
    have hai : (a : Int) < 256 := by omega
    have hbi : (b : Int) < 256 := by omega
    obtain rfl := h.at_
    generalize glog a = u at *
    generalize glog b = v at *
    have hm : IntKind.i64.wrap ((u : Int) + v) = (u : Int) + v := by rw [IntKind.wrap_i64]; omega
    have hm1 : ((u : Int) + v).tmod 255 = (((u + v) % 255 : Nat) : Int) := by
      rw [show ((u : Int) + v) = ((u + v : Nat) : Int) by omega]; rfl
    have hm2 : IntKind.i64.wrap (((u + v) % 255 : Nat) : Int) = (((u + v) % 255 : Nat) : Int) := by rw [IntKind.wrap_i64]; omega
    clear h h0 h0'
    go_enter Tryz.func212, Tryz.ntmps212
    go_wp2
    go_quiet (fail)
    go_wp2
    go_ret
    rw [HG.out]
    exact ⟨rfl, _, rfl⟩
theorem getCoefs_c {w : World} {P F : Nat} {cs : List Nat} (h : PL w P F cs) : Calls Tryz.prog 177 #[ptv P] w fun e w' => (∃ (C o : Nat) (l : List Nat), e = .returned (.slice (some ⟨C, o, none⟩) cs.length cs.length) ∧ Blk w' C (l.map num) 3 ∧ l.drop o = cs ∧ o + cs.length = l.length ∧ F ≤ C) ∧ w = w' := by
  obtain ⟨C, hne, o, l, h1, h2, h3, h4⟩ := h
  have c1 := h1.at (i := 1) rfl
  have H := Lib.hid (And.intro h2 (And.intro h3 h4))
  clear h1 h2 h3 h4
  go_enter Tryz.func177, Tryz.ntmps177
  go_wp2
  go_ret
  exact ⟨⟨C, o, l, rfl, H.out⟩, rfl⟩
/-- Is it zero? -/
def isZ (cs : List Nat) : Bool := cs.getD 0 0 == 0
theorem isZero_c {w : World} {P F : Nat} {cs : List Nat} (h : PL w P F cs) : Calls Tryz.prog 213 #[ptv P] w fun e w' => e = .returned (.bool (isZ cs)) ∧ w = w' := by
  obtain ⟨C, hne, o, l, h1, h2, h3, h4⟩ := h
  have c1 := h1.at (i := 1) rfl
  obtain ⟨a, r, rfl⟩ : ∃ a r, cs = a :: r := by cases cs with | nil => exact absurd rfl hne | cons a r => exact ⟨a, r, rfl⟩
  have c2 := PLc.cell (w := w) (P := P) (F := F) h2 h3 0 a rfl
  have hlen : (0 : Nat) < (a :: r).length := by simp
  have hz : isZ (a :: r) = ((a : Int) == 0) := by unfold isZ; simp; rw [Bool.eq_iff_iff]; simp
  have HZ := Lib.hid hz
  rw [Nat.add_zero] at c2
  generalize (a :: r).length = len at *
  clear h1 h2 h3 h4 hz hne
  go_enter Tryz.func213, Tryz.ntmps213
  go_wp2
  go_ret
  exact ⟨by rw [HZ.out]; rfl, rfl⟩
theorem degree_c {w : World} {P F : Nat} {cs : List Nat} (h : PL w P F cs) (hl : cs.length ≤ 1000) : Calls Tryz.prog 215 #[ptv P] w fun e w' => e = .returned (num (cs.length - 1)) ∧ w = w' := by
  obtain ⟨C, hne, o, l, h1, h2, h3, h4⟩ := h
  have c1 := h1.at (i := 1) rfl
  have hlp : 1 ≤ cs.length := by cases cs with | nil => exact absurd rfl hne | cons a r => simp
  have hli : (cs.length : Int) ≤ 1000 := by omega
  have hl1 : (1 : Int) ≤ cs.length := by omega
  clear h1 h2 h3 h4 hne
  go_enter Tryz.func215, Tryz.ntmps215
  go_wp2
  go_ret
  exact ⟨ret_int (by omega), rfl⟩
/-- The number at a degree. -/
theorem coef_c {w : World} {P F : Nat} {cs : List Nat} (h : PL w P F cs) (hl : cs.length ≤ 1000) (d : Nat) (hd : d < cs.length) : Calls Tryz.prog 214 #[ptv P, num d] w fun e w' => e = .returned (num (cs.getD (cs.length - 1 - d) 0)) ∧ ∃ n, w' = w.drewN n := by
  obtain ⟨C, hne, o, l, h1, h2, h3, h4⟩ := h
  have c1 := h1.at (i := 1) rfl
  have hli : (cs.length : Int) ≤ 1000 := by omega
  have hdi : (d : Int) < cs.length := by omega
  obtain ⟨x, hx⟩ : ∃ x, cs.getD (cs.length - 1 - d) 0 = x := ⟨_, rfl⟩
  rw [hx]
  have c2 := PLc.cell (w := w) (P := P) (F := F) h2 h3 (cs.length - 1 - d) x (by rw [List.getD_eq_getElem?_getD] at hx; rw [List.getElem?_eq_getElem (by omega)] at hx ⊢; simp at hx; rw [hx])
  obtain ⟨k, hk⟩ : ∃ k, cs.length - 1 - d = k := ⟨_, rfl⟩
  rw [hk] at c2
  have hki : (cs.length : Int) - 1 - d = (k : Int) := by omega
  clear h1 h2 h3 h4 hne hx hk
  go_enter Tryz.func214, Tryz.ntmps214
  go_wp2
  try go_quiet (fail)
  try go_wp2
  go_ret
  exact ⟨rfl, by first | exact ⟨0, rfl⟩ | exact ⟨_, rfl⟩⟩
theorem coef_top {w : World} {P F : Nat} {cs : List Nat} (h : PL w P F cs) (hl : cs.length ≤ 1000) : Calls Tryz.prog 214 #[ptv P, num (cs.length - 1)] w fun e w' => e = .returned (num (cs.getD 0 0)) ∧ ∃ n, w' = w.drewN n := by
  have hp : 1 ≤ cs.length := by obtain ⟨C, hne, _⟩ := h; cases cs with | nil => exact absurd rfl hne | cons a r => simp
  have := coef_c h hl (cs.length - 1) (by omega)
  rw [Nat.sub_self] at this
  exact this
theorem i64_xor62 (a b : Nat) (ha : a < 4611686018427387904) (hb : b < 4611686018427387904) : bits .xor .i64 (a : Int) (b : Int) = ((a ^^^ b : Nat) : Int) := by
  have hx : a ^^^ b < 2 ^ 62 := Nat.xor_lt_two_pow (by simpa using ha) (by simpa using hb)
  have h1 : a % 2 ^ 64 = a := Nat.mod_eq_of_lt (by omega)
  have h2 : b % 2 ^ 64 = b := Nat.mod_eq_of_lt (by omega)
  show IntKind.i64.wrap ((BitVec.ofInt 64 (a : Int) ^^^ BitVec.ofInt 64 (b : Int)).toNat : Int) = _
  rw [BitVec.toNat_xor, BitVec.ofInt_natCast, BitVec.ofInt_natCast, BitVec.toNat_ofNat, BitVec.toNat_ofNat, h1, h2, IntKind.wrap_i64]
  omega
theorem addOr_c (a b : Nat) (ha : a < 256) (hb : b < 256) (w : World) : Calls Tryz.prog 253 #[num a, num b] w fun e w' => e = .returned (num (a ^^^ b)) ∧ w = w' := by
  have hx : bits .xor .i64 (a : Int) (b : Int) = ((a ^^^ b : Nat) : Int) := i64_xor62 a b (by omega) (by omega)
  go_enter Tryz.func253, Tryz.ntmps253
  go_wp2
  go_ret
  exact ⟨rfl, rfl⟩
end

section
/-- Without the zeros ahead. -/
def strip : List Nat → List Nat
  | [] => []
  | a :: r => if a = 0 ∧ r ≠ [] then strip r else a :: r
theorem strip_at (cs : List Nat) : ∀ k, k < cs.length → (∀ j, j < k → cs.getD j 0 = 0) → cs.getD k 0 ≠ 0 → strip cs = cs.drop k := by
  induction cs with
  | nil => intro k hk; simp at hk
  | cons a r ih =>
    intro k hk h0 h1
    cases k with
    | zero => simp at h1; unfold strip; rw [if_neg (by intro h; exact h1 h.1)]; rfl
    | succ k =>
      have ha : a = 0 := by simpa using h0 0 (by omega)
      have hr : r ≠ [] := by intro h; subst h; simp at hk
      unfold strip
      rw [if_pos ⟨ha, hr⟩]
      exact ih k (by simpa using hk) (fun j hj => by simpa using h0 (j + 1) (by omega)) (by simpa using h1)
theorem strip_zero (cs : List Nat) (hne : cs ≠ []) (h0 : ∀ j, j < cs.length → cs.getD j 0 = 0) : strip cs = [0] := by
  induction cs with
  | nil => exact absurd rfl hne
  | cons a r ih =>
    have ha : a = 0 := by simpa using h0 0 (by simp)
    unfold strip
    by_cases hr : r = []
    · subst hr; rw [if_neg (by simp), ha]
    · rw [if_pos ⟨ha, hr⟩]; exact ih hr (fun j hj => by simpa using h0 (j + 1) (by simpa using hj))
theorem strip_one (cs : List Nat) (hne : cs ≠ []) (h : cs.length = 1 ∨ cs.getD 0 0 ≠ 0) : strip cs = cs := by
  cases cs with
  | nil => rfl
  | cons a r =>
    unfold strip
    rw [if_neg]
    rintro ⟨h1, h2⟩
    rcases h with h | h
    · simp at h; exact h2 h
    · simp at h; exact h h1
theorem cs_cell {w : World} {C : Nat} {cs : List Nat} (hb : Blk w C (cs.map num) 3) (i : Nat) (hi : i < cs.length) : w.cell? ⟨C, i, none⟩ = some (num (cs.getD i 0)) := hb.at (tab_get cs i hi)
set_option maxRecDepth 100000 in
set_option maxHeartbeats 1000000 in
theorem newPoly_c {w : World} {C : Nat} (cs : List Nat) (F : Nat) (hb : Blk w C (cs.map num) 3) (hne : cs ≠ []) (hl : cs.length ≤ 1000) (hFC : F ≤ C) :
    Calls Tryz.prog 157 #[ptv F, slv C cs.length cs.length] w fun e w' => e = .returned (.tuple #[ptv w.heap.size, .nilIface]) ∧ PL w' w.heap.size F (strip cs) ∧ Kept [] w w' ∧ w.heap.size < w'.heap.size ∧
      ((cs.length = 1 ∨ cs.getD 0 0 ≠ 0) → PLc w' w.heap.size F C cs ∧ w'.heap.size = w.heap.size + 1) := by
  have hlp : 1 ≤ cs.length := by cases cs with | nil => exact absurd rfl hne | cons a r => simp
  have hli : (cs.length : Int) ≤ 1000 := by omega
  have hl1 : (1 : Int) ≤ cs.length := by omega
  have hCl := hb.lt
  have hCw : C ≠ w.heap.size := by omega
  by_cases hsimple : cs.length = 1 ∨ cs.getD 0 0 ≠ 0
  · have HF : Hid (PL (w.alloc (.cells #[ptv F, slv C cs.length cs.length] 309)) w.heap.size F (strip cs) ∧ Kept [] w (w.alloc (.cells #[ptv F, slv C cs.length cs.length] 309)) ∧ w.heap.size < (w.alloc (.cells #[ptv F, slv C cs.length cs.length] 309)).heap.size ∧
        ((cs.length = 1 ∨ cs.getD 0 0 ≠ 0) → PLc (w.alloc (.cells #[ptv F, slv C cs.length cs.length] 309)) w.heap.size F C cs ∧ (w.alloc (.cells #[ptv F, slv C cs.length cs.length] 309)).heap.size = w.heap.size + 1)) := by
      have h1 : PLc (w.alloc (.cells #[ptv F, slv C cs.length cs.length] 309)) w.heap.size F C cs := ⟨hne, 0, _, Blk.new w [ptv F, slv C cs.length cs.length] 309, hb.alloc _, by simp, by simp, hFC⟩
      exact Lib.hid ⟨⟨C, by rw [strip_one cs hne hsimple]; exact h1⟩, (Kept.refl _ _).alloc _, by simp, fun _ => ⟨h1, by simp⟩⟩
    have c0 := cs_cell hb 0 (by omega)
    have hs' : (cs.length : Int) ≤ 1 ∨ ((((cs.getD 0 0 : Nat) : Int) == 0) = false ∧ 1 < (cs.length : Int)) := by
      rcases Nat.lt_or_ge 1 cs.length with h | h
      · right
        rcases hsimple with h2 | h2
        · omega
        · exact ⟨by simpa using h2, by omega⟩
      · left; omega
    generalize cs.getD 0 0 = c at c0 hs' HF
    clear hsimple
    rcases hs' with h1 | ⟨h1, h2⟩
    all_goals
      go_enter Tryz.func157, Tryz.ntmps157
      go_wp2_with fail
      go_ret2
      exact ⟨rfl, HF.out⟩
  · have hl2 : 1 < cs.length ∧ cs.getD 0 0 = 0 := by omega
    have HNS := Lib.hid hsimple
    clear hsimple
    have hl2i : (1 : Int) < cs.length := by omega
    have c0 := cs_cell hb 0 (by omega)
    rw [hl2.2] at c0
    have H0 := Lib.hid hl2
    have HB := Lib.hid hb
    clear hl2 hb
    go_enter Tryz.func157, Tryz.ntmps157
    go_wp2_with fail
    go_loopw [8] (fun i wr => ∃ k : Nat, 1 ≤ k ∧ k ≤ cs.length ∧ i = num k ∧ Hid (∀ j, j < k → cs.getD j 0 = 0) ∧ (w.alloc (.cells #[ptv F, .slice none 0 0] 309)) = wr) (fun i _ => (cs.length - (intOf i).toNat))
    case atStart => exact ⟨1, by omega, by omega, rfl, Lib.hid (fun j hj => by rw [show j = 0 by omega]; exact H0.out.2), rfl⟩
    case round =>
      obtain ⟨k, hk1, hkl, rfl, HZ, rfl⟩ := hrel
      have hk1i : (1 : Int) ≤ k := by omega
      have hkli : (k : Int) ≤ cs.length := by omega
      by_cases hlt : k < cs.length
      · have hlti : (k : Int) < cs.length := by omega
        have c1 := cs_cell HB.out k hlt
        obtain ⟨c, hc⟩ : ∃ c, cs.getD k 0 = c := ⟨_, rfl⟩
        rw [hc] at c1
        by_cases hcz : c = 0
        · subst hcz
          have HZ2 : Hid (∀ j, j < k + 1 → cs.getD j 0 = 0) := Lib.hid (fun j hj => by
            rcases Nat.lt_or_ge j k with h | h
            · exact HZ.out j h
            · obtain rfl : j = k := by omega
              exact hc)
          clear hc
          go_wp2_with fail
          go_roundw
          case rel => exact ⟨k + 1, by omega, by omega, by go_num, HZ2, trivial⟩
          case measure => simp [intOf]; omega
        · have hcb : ((c : Int) == 0) = false := by simpa using hcz
          have hkne : ((k : Int) == (cs.length : Int)) = false := by simp; omega
          have HS := Lib.hid (strip_at cs k hlt HZ.out (by rw [hc]; exact hcz))
          clear hc
          have hlen : (cs.drop k).length = cs.length - k := by simp
          have HL := Lib.hid hlen
          clear hlen
          go_wp2_with fail
          go_ret2
          refine ⟨rfl, ⟨C, ?_⟩, (Kept.refl _ _).alloc _, by simp, fun h => absurd h HNS.out⟩
          rw [HS.out]
          refine ⟨by intro h; have := HL.out; rw [h] at this; simp at this; omega, k, _, ?_, HB.out.alloc _, by simp, by simp; omega, hFC⟩
          rw [HL.out]
          exact Blk.new w _ 309
      · obtain rfl : k = cs.length := by omega
        have HS := Lib.hid (strip_zero cs hne HZ.out)
        go_wp2_with fail
        go_ret2
        refine ⟨rfl, ⟨w.heap.size + 1, ?_⟩, ?_, ?_, fun h => absurd h HNS.out⟩
        · rw [HS.out]
          refine ⟨by simp, 0, [0], ?_, ?_, by simp, by simp, by omega⟩
          · exact (Blk.new w [ptv F, slv (w.heap.size + 1) 1 1] 309).alloc _
          · have := Blk.new (w.alloc (.cells #[ptv F, slv (w.heap.size + 1) 1 1] 309)) [num 0] 3
            rw [World.size_alloc] at this; exact this
        · exact ((Kept.refl _ _).alloc _).alloc _
        · simp; omega
theorem newPoly_n {w : World} {C : Nat} (cs : List Nat) (F n : Nat) (hb : Blk w C (cs.map num) 3) (hne : cs ≠ []) (hl : cs.length ≤ 1000) (hn : cs.length = n) (hFC : F ≤ C) :
    Calls Tryz.prog 157 #[ptv F, slv C n n] w fun e w' => e = .returned (.tuple #[ptv w.heap.size, .nilIface]) ∧ PL w' w.heap.size F (strip cs) ∧ Kept [] w w' := by
  subst hn
  exact (newPoly_c cs F hb hne hl hFC).mono fun e w' h => ⟨h.1, h.2.1, h.2.2.1⟩
theorem Blk.of {w : World} {b : Nat} {a : Array Value} {vs : List Value} {T : TypeId} (h : a = vs.toArray) (hb : Blk w b a.toList T) : Blk w b vs T := by subst h; simpa using hb
theorem Blk.newA (w : World) (a : Array Value) (T : TypeId) : Blk (w.alloc (.cells a T)) w.heap.size a.toList T := by
  have := Blk.new w a.toList T
  simpa using this
end

section
theorem inv_c {w : World} {F lo : Nat} (h : GF w F lo) (a : Nat) (ha : a < 256) (h1 : 1 ≤ a) : Calls Tryz.prog 216 #[ptv F, num a] w fun e w' => e = .returned (.tuple #[num (ginv a), .nilIface]) ∧ Kept [] w w' := by
  have ha0 : ((a : Int) == 0) = false := by simp; omega
  have hai : (a : Int) < 256 := by omega
  have c0 := h.self.at (i := 0) rfl
  have c1 := h.self.at (i := 1) rfl
  have c4 := h.self.at (i := 4) rfl
  have l1 := h.logAt a ha
  have hla := log_bd a ha
  have x1 := h.expAt (256 - glog a - 1) (by omega)
  have HG := Lib.hid (show ginv a = gexp (256 - glog a - 1) from rfl)
  obtain rfl := h.at_
  generalize glog a = u at *
  obtain ⟨k, hk⟩ : ∃ k, 256 - u - 1 = k := ⟨_, rfl⟩
  rw [hk] at x1 HG
  have hm : IntKind.i64.wrap ((256 : Int) - u) = 256 - u := by rw [IntKind.wrap_i64]; omega
  have hm1 : IntKind.i64.wrap ((256 : Int) - u - 1) = (k : Int) := by rw [IntKind.wrap_i64]; omega
  have hk9 : (k : Int) < 256 := by omega
  have hk8 : k < 256 := by omega
  clear h hk
  go_enter Tryz.func216, Tryz.ntmps216
  go_wp2_with fail
  go_quiet (fail)
  go_wp2_with fail
  go_ret2
  exact ⟨by rw [HG.out]; rfl, (Kept.refl _ _).drewN _⟩
theorem neq_ptr (w : World) (F : Nat) (t : TypeId) : True := trivial
/-- x to the power d, times c. -/
def mono (d c : Nat) : List Nat := if c = 0 then [0] else c :: List.replicate d 0
set_option maxRecDepth 100000 in
theorem mono_c {w : World} {F lo : Nat} (h : GF w F lo) (d c : Nat) (hd : d ≤ 500) (hc : c < 256) : Calls Tryz.prog 217 #[ptv F, num d, num c] w fun e w' => (∃ P, e = .returned (.tuple #[ptv P, .nilIface]) ∧ PL w' P F (mono d c)) ∧ Kept [] w w' := by
  have hdi : (d : Int) ≤ 500 := by omega
  by_cases h0 : c = 0
  · subst h0
    have c0 := h.self.at (i := 2) rfl
    have HZ := Lib.hid h.zero
    obtain rfl := h.at_
    clear h
    go_enter Tryz.func217, Tryz.ntmps217
    go_wp2_with fail
    go_ret2
    exact ⟨⟨F + 4, rfl, ⟨_, HZ.out⟩⟩, Kept.refl _ _⟩
  · have hcb : ((c : Int) == 0) = false := by simpa using h0
    have hmk := mk_ints ((d : Int) + 1) ((d : Int) + 1) (d + 1) (d + 1) (by omega) (by omega) (by omega) (by omega)
    have HMO : Hid (mono d c = c :: List.replicate d 0) := Lib.hid (by unfold mono; rw [if_neg h0])
    clear h0
    have HH := Lib.hid h
    clear h
    go_enter Tryz.func217, Tryz.ntmps217
    go_wp2_with fail
    refine (newPoly_n (c :: List.replicate d 0) F (d + 1) ?_ (by simp) (by simp; omega) (by simp) (by have := HH.out.at_; have := HH.out.self.lt; omega)).mono ?_
    · exact Blk.of (by apply Array.ext'; simp [List.replicate_succ]) (Blk.newA w _ 3)
    rintro e w1 ⟨rfl, hp, hk⟩
    rw [World.size_alloc] at hp
    go_wp2_with fail
    go_ret2
    exact ⟨⟨_, rfl, by rw [HMO.out]; have : strip (c :: List.replicate d 0) = c :: List.replicate d 0 := strip_one _ (by simp) (.inr (by simp; intro h; subst h; simp at hcb)); rw [← this]; exact hp⟩, ((Kept.refl _ _).alloc _).trans0 hk⟩
end
end Go.Proofs.YtplpafbkalkchaaGreatDoor
