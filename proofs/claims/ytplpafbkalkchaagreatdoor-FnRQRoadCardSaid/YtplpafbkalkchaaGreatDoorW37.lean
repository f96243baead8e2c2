/- Walks: small functions of the decoder. Walks: the bits of the format are read. Walks: a format's code is found in the table; a version's, too. Plain laws for the reading of bits. -/
import Derived.Test.YtplpafbkalkchaaGreatDoorW35
import Derived.Test.YtplpafbkalkchaaGreatDoorW27
import Derived.Test.YtplpafbkalkchaaGreatDoorW23
import Derived.Test.YtplpafbkalkchaaGreatDoorW12
namespace Go.Proofs.YtplpafbkalkchaaGreatDoor
open Go Go.RowKit Go.Proofs
set_option linter.all false

section
theorem resSegments_c {w : World} {D : Nat} {a : Option Addr} {l c : Nat} (h : w.cell? ⟨D, 3, none⟩ = some (.slice a l c)) : Calls Tryz.prog 84 #[ptv D] w fun e w' => e = .returned (.slice a l c) ∧ w = w' := by
  go_enter Tryz.func84, Tryz.ntmps84
  go_wp2
  go_ret
  exact ⟨rfl, rfl⟩
theorem resText_c {w : World} {D : Nat} {s : ByteArray} (h : w.cell? ⟨D, 2, none⟩ = some (.string s)) : Calls Tryz.prog 85 #[ptv D] w fun e w' => e = .returned (.string s) ∧ w = w' := by
  go_enter Tryz.func85, Tryz.ntmps85
  go_wp2
  go_ret
  exact ⟨rfl, rfl⟩
theorem resRaw_c {w : World} {D : Nat} {a : Option Addr} {l c : Nat} (h : w.cell? ⟨D, 0, none⟩ = some (.slice a l c)) : Calls Tryz.prog 86 #[ptv D] w fun e w' => e = .returned (.slice a l c) ∧ w = w' := by
  go_enter Tryz.func86, Tryz.ntmps86
  go_wp2
  go_ret
  exact ⟨rfl, rfl⟩
theorem resLevel_c {w : World} {D : Nat} {s : ByteArray} (h : w.cell? ⟨D, 4, none⟩ = some (.string s)) : Calls Tryz.prog 87 #[ptv D] w fun e w' => e = .returned (.string s) ∧ w = w' := by
  go_enter Tryz.func87, Tryz.ntmps87
  go_wp2
  go_ret
  exact ⟨rfl, rfl⟩
theorem resErrors_c {w : World} {D : Nat} {x : Int} (h : w.cell? ⟨D, 5, none⟩ = some (.int .i64 x)) : Calls Tryz.prog 88 #[ptv D] w fun e w' => e = .returned (.int .i64 x) ∧ w = w' := by
  go_enter Tryz.func88, Tryz.ntmps88
  go_wp2
  go_ret
  exact ⟨rfl, rfl⟩
theorem resSequence_c {w : World} {D : Nat} {x : Int} (h : w.cell? ⟨D, 9, none⟩ = some (.int .i64 x)) : Calls Tryz.prog 89 #[ptv D] w fun e w' => e = .returned (.int .i64 x) ∧ w = w' := by
  go_enter Tryz.func89, Tryz.ntmps89
  go_wp2
  go_ret
  exact ⟨rfl, rfl⟩
theorem resParity_c {w : World} {D : Nat} {x : Int} (h : w.cell? ⟨D, 8, none⟩ = some (.int .i64 x)) : Calls Tryz.prog 90 #[ptv D] w fun e w' => e = .returned (.int .i64 x) ∧ w = w' := by
  go_enter Tryz.func90, Tryz.ntmps90
  go_wp2
  go_ret
  exact ⟨rfl, rfl⟩
theorem resModifier_c {w : World} {D : Nat} {x : Int} (h : w.cell? ⟨D, 10, none⟩ = some (.int .i64 x)) : Calls Tryz.prog 91 #[ptv D] w fun e w' => e = .returned (.int .i64 x) ∧ w = w' := by
  go_enter Tryz.func91, Tryz.ntmps91
  go_wp2
  go_ret
  exact ⟨rfl, rfl⟩
theorem fiLevel_c {w : World} {D : Nat} {x : Int} (h : w.cell? ⟨D, 0, none⟩ = some (.int .i64 x)) : Calls Tryz.prog 193 #[ptv D] w fun e w' => e = .returned (.int .i64 x) ∧ w = w' := by
  go_enter Tryz.func193, Tryz.ntmps193
  go_wp2
  go_ret
  exact ⟨rfl, rfl⟩
theorem fiMask_c {w : World} {D : Nat} {x : Int} (h : w.cell? ⟨D, 1, none⟩ = some (.int .u8 x)) : Calls Tryz.prog 201 #[ptv D] w fun e w' => e = .returned (.int .u8 x) ∧ w = w' := by
  go_enter Tryz.func201, Tryz.ntmps201
  go_wp2
  go_ret
  exact ⟨rfl, rfl⟩
theorem dbData_c {w : World} {D : Nat} {x : Int} (h : w.cell? ⟨D, 0, none⟩ = some (.int .i64 x)) : Calls Tryz.prog 196 #[ptv D] w fun e w' => e = .returned (.int .i64 x) ∧ w = w' := by
  go_enter Tryz.func196, Tryz.ntmps196
  go_wp2
  go_ret
  exact ⟨rfl, rfl⟩
theorem dbWords_c {w : World} {D : Nat} {a : Option Addr} {l c : Nat} (h : w.cell? ⟨D, 1, none⟩ = some (.slice a l c)) : Calls Tryz.prog 197 #[ptv D] w fun e w' => e = .returned (.slice a l c) ∧ w = w' := by
  go_enter Tryz.func197, Tryz.ntmps197
  go_wp2
  go_ret
  exact ⟨rfl, rfl⟩
theorem newRS_c (F : Nat) (w : World) : Calls Tryz.prog 92 #[ptv F] w fun e w' => e = .returned (ptv w.heap.size) ∧ Blk w' w.heap.size [ptv F] 237 ∧ Kept [] w w' := by
  go_enter Tryz.func92, Tryz.ntmps92
  go_wp2_with fail
  go_ret
  exact ⟨rfl, Blk.new _ _ _, (Kept.refl _ _).alloc _⟩
theorem newBlock_c (n C l : Nat) (w : World) : Calls Tryz.prog 222 #[intc n, slv C l l] w fun e w' => e = .returned (ptv w.heap.size) ∧ Blk w' w.heap.size [intc n, slv C l l] 344 ∧ Kept [] w w' ∧ w'.heap.size = w.heap.size + 1 := by
  go_enter Tryz.func222, Tryz.ntmps222
  go_wp2_with fail
  go_ret
  exact ⟨rfl, Blk.new _ _ _, (Kept.refl _ _).alloc _, by simp⟩
/-- A source of bits: bytes, and how many bits of them are read. -/
structure BS (w : World) (S D : Nat) (xs : List Nat) (p : Nat) : Prop where
  st : Blk w S [slv D xs.length xs.length, intc (p / 8), intc (p % 8)] 378
  ar : Blk w D (xs.map u8c) 5
  lt : ∀ x ∈ xs, x < 256
  few : xs.length ≤ 300
  fits : p ≤ 8 * xs.length
theorem BS.kept {w w' : World} {S D : Nat} {xs : List Nat} {p : Nat} {T : List Nat} (h : BS w S D xs p) (hk : Kept T w w') (h1 : S ∉ T) (h2 : D ∉ T) : BS w' S D xs p := ⟨hk.blk h.st h1, hk.blk h.ar h2, h.lt, h.few, h.fits⟩
theorem bitSource_c {w : World} {D : Nat} {xs : List Nat} (h : Blk w D (xs.map u8c) 5) (hl : ∀ x ∈ xs, x < 256) (hf : xs.length ≤ 300) :
    Calls Tryz.prog 225 #[slv D xs.length xs.length] w fun e w' => e = .returned (ptv w.heap.size) ∧ BS w' w.heap.size D xs 0 ∧ Kept [] w w' := by
  have H := Lib.hid h
  clear h
  go_enter Tryz.func225, Tryz.ntmps225
  go_wp2_with fail
  go_ret
  exact ⟨rfl, ⟨Blk.new _ _ _, H.out.alloc _, hl, hf, by omega⟩, (Kept.refl _ _).alloc _⟩
set_option maxHeartbeats 1000000 in
theorem available_c {w : World} {S D : Nat} {xs : List Nat} {p : Nat} (h : BS w S D xs p) : Calls Tryz.prog 226 #[ptv S] w fun e w' => e = .returned (intc (8 * xs.length - p)) ∧ ∃ k, w' = w.drewN k := by
  have c0 := h.st.at (i := 0) rfl
  have c1 := h.st.at (i := 1) rfl
  have c2 := h.st.at (i := 2) rfl
  have hp := h.fits
  have hf := h.few
  obtain ⟨n, hn⟩ : ∃ n, xs.length = n := ⟨_, rfl⟩
  rw [hn] at c0 hp hf
  rw [hn]
  obtain ⟨q, hq⟩ : ∃ q, p / 8 = q := ⟨_, rfl⟩
  obtain ⟨r, hr⟩ : ∃ r, p % 8 = r := ⟨_, rfl⟩
  rw [hq] at c1
  rw [hr] at c2
  have e : Hid ((8 * n - p : Nat) = 8 * (n - q) - r ∧ q * 8 + r = p) := Lib.hid ⟨by omega, by omega⟩
  have i1 : (q : Int) ≤ n := by omega
  have i2 : (n : Int) ≤ 300 := by omega
  have i3 : (r : Int) < 8 := by omega
  have HP := Lib.hid hp
  clear hn hq hr hp h
  go_enter Tryz.func226, Tryz.ntmps226
  go_wp2_with fail
  go_quiet (fail)
  go_wp2_with fail
  go_ret
  exact ⟨ret_int (by have := e.out; have := HP.out; omega), _, rfl⟩
theorem modeFor0_c (w : World) : Calls Tryz.prog 228 #[.int .i64 0] w fun e w' => e = .returned (.tuple #[.int .i64 0, .nilIface]) ∧ w = w' := by
  go_enter Tryz.func228, Tryz.ntmps228
  go_wp2_with fail
  go_ret2
  exact ⟨rfl, rfl⟩
theorem modeFor1_c (w : World) : Calls Tryz.prog 228 #[.int .i64 1] w fun e w' => e = .returned (.tuple #[.int .i64 1, .nilIface]) ∧ w = w' := by
  go_enter Tryz.func228, Tryz.ntmps228
  go_wp2_with fail
  go_ret2
  exact ⟨rfl, rfl⟩
theorem modeFor2_c (w : World) : Calls Tryz.prog 228 #[.int .i64 2] w fun e w' => e = .returned (.tuple #[.int .i64 2, .nilIface]) ∧ w = w' := by
  go_enter Tryz.func228, Tryz.ntmps228
  go_wp2_with fail
  go_ret2
  exact ⟨rfl, rfl⟩
theorem modeFor4_c (w : World) : Calls Tryz.prog 228 #[.int .i64 4] w fun e w' => e = .returned (.tuple #[.int .i64 4, .nilIface]) ∧ w = w' := by
  go_enter Tryz.func228, Tryz.ntmps228
  go_wp2_with fail
  go_ret2
  exact ⟨rfl, rfl⟩
theorem modeFor_c (m : Nat) (hm : m = 0 ∨ m = 1 ∨ m = 2 ∨ m = 4) (w : World) : Calls Tryz.prog 228 #[intc m] w fun e w' => e = .returned (.tuple #[intc m, .nilIface]) ∧ w = w' := by
  rcases hm with rfl | rfl | rfl | rfl
  · exact modeFor0_c w
  · exact modeFor1_c w
  · exact modeFor2_c w
  · exact modeFor4_c w
theorem levelName0_c (w : World) : Calls Tryz.prog 237 #[.int .i64 0] w fun e w' => (∃ s, e = .returned (.string s)) ∧ w = w' := by
  go_enter Tryz.func237, Tryz.ntmps237
  go_wp2_with fail
  go_ret
  exact ⟨⟨_, rfl⟩, rfl⟩
theorem levelFor0_c (w : World) : Calls Tryz.prog 278 #[.int .u64 0] w fun e w' => e = .returned (.tuple #[.int .i64 0, .nilIface]) ∧ w = w' := by
  go_enter Tryz.func278, Tryz.ntmps278
  go_wp2_with fail
  go_ret2
  exact ⟨rfl, rfl⟩
theorem levelName1_c (w : World) : Calls Tryz.prog 237 #[.int .i64 1] w fun e w' => (∃ s, e = .returned (.string s)) ∧ w = w' := by
  go_enter Tryz.func237, Tryz.ntmps237
  go_wp2_with fail
  go_ret
  exact ⟨⟨_, rfl⟩, rfl⟩
theorem levelFor1_c (w : World) : Calls Tryz.prog 278 #[.int .u64 1] w fun e w' => e = .returned (.tuple #[.int .i64 1, .nilIface]) ∧ w = w' := by
  go_enter Tryz.func278, Tryz.ntmps278
  go_wp2_with fail
  go_ret2
  exact ⟨rfl, rfl⟩
theorem levelName2_c (w : World) : Calls Tryz.prog 237 #[.int .i64 2] w fun e w' => (∃ s, e = .returned (.string s)) ∧ w = w' := by
  go_enter Tryz.func237, Tryz.ntmps237
  go_wp2_with fail
  go_ret
  exact ⟨⟨_, rfl⟩, rfl⟩
theorem levelFor2_c (w : World) : Calls Tryz.prog 278 #[.int .u64 2] w fun e w' => e = .returned (.tuple #[.int .i64 2, .nilIface]) ∧ w = w' := by
  go_enter Tryz.func278, Tryz.ntmps278
  go_wp2_with fail
  go_ret2
  exact ⟨rfl, rfl⟩
theorem levelName3_c (w : World) : Calls Tryz.prog 237 #[.int .i64 3] w fun e w' => (∃ s, e = .returned (.string s)) ∧ w = w' := by
  go_enter Tryz.func237, Tryz.ntmps237
  go_wp2_with fail
  go_ret
  exact ⟨⟨_, rfl⟩, rfl⟩
theorem levelFor3_c (w : World) : Calls Tryz.prog 278 #[.int .u64 3] w fun e w' => e = .returned (.tuple #[.int .i64 3, .nilIface]) ∧ w = w' := by
  go_enter Tryz.func278, Tryz.ntmps278
  go_wp2_with fail
  go_ret2
  exact ⟨rfl, rfl⟩
theorem levelName_c (l : Nat) (h : l < 4) (w : World) : Calls Tryz.prog 237 #[intc l] w fun e w' => (∃ s, e = .returned (.string s)) ∧ w = w' := by
  have : l = 0 ∨ l = 1 ∨ l = 2 ∨ l = 3 := by omega
  rcases this with rfl | rfl | rfl | rfl
  · exact levelName0_c w
  · exact levelName1_c w
  · exact levelName2_c w
  · exact levelName3_c w
theorem levelFor_c (l : Nat) (h : l < 4) (w : World) : Calls Tryz.prog 278 #[.int .u64 (l : Int)] w fun e w' => e = .returned (.tuple #[intc l, .nilIface]) ∧ w = w' := by
  have : l = 0 ∨ l = 1 ∨ l = 2 ∨ l = 3 := by omega
  rcases this with rfl | rfl | rfl | rfl
  · exact levelFor0_c w
  · exact levelFor1_c w
  · exact levelFor2_c w
  · exact levelFor3_c w
end

section
theorem i64_or1 (v : Nat) (hv : v < 1048576) : bits .or .i64 ((v : Int) * 2) 1 = ((2 * v + 1 : Nat) : Int) := by
  have h := i64_or_nat (2 * v) 1 (by omega) (by omega)
  have e : 2 * v ||| 1 = 2 * v + 1 := by
    apply Nat.eq_of_testBit_eq
    intro i
    rw [Nat.testBit_or]
    cases i with
    | zero => simp [Nat.testBit_zero]
    | succ i => simp [Nat.testBit_succ]; rw [show (2 * v + 1) / 2 = v by omega]
  rw [e] at h
  rw [show (v : Int) * 2 = ((2 * v : Nat) : Int) by omega]
  exact h
set_option maxRecDepth 100000 in
set_option maxHeartbeats 1000000 in
theorem copyBit_c {w : World} {P G C n rs : Nat} {ws : List Nat} {f : Nat → Nat → Bool} {pv pf : Value} (hP : Blk w P [ptv G, pv, pf, .bool false] 312) (hG : GM w G C n n rs ws f) (y x v : Nat) (hy : y < n) (hx : x < n) {b : Bool} (hb : f y x = b) (hv : v < 1048576) :
    Calls Tryz.prog 203 #[ptv P, intc x, intc y, intc v] w fun e w' => e = .returned (intc (2 * v + bnum b)) ∧ w = w' := by
  have c0 := hP.at (i := 0) rfl
  have c3 := hP.at (i := 3) rfl
  have ho := i64_or1 v hv
  have hvi : (v : Int) < 1048576 := by omega
  have HG := Lib.hid (gmGet_c hG hy hx hb)
  clear hP hG hb
  cases b with
  | true =>
    go_enter Tryz.func203, Tryz.ntmps203
    go_wp2_with fail
    refine HG.out.mono ?_
    rintro e wx ⟨rfl, rfl⟩
    go_wp2_with fail
    go_ret
    exact ⟨rfl, rfl⟩
  | false =>
    go_enter Tryz.func203, Tryz.ntmps203
    go_wp2_with fail
    refine HG.out.mono ?_
    rintro e wx ⟨rfl, rfl⟩
    go_wp2_with fail
    go_ret
    exact ⟨ret_int (by simp [bnum]; omega), rfl⟩
theorem bval_next (tb : List Bool) (k : Nat) (h : k < tb.length) : 2 * bval (tb.take k) + bnum (tb.getD k false) = bval (tb.take (k + 1)) := by
  rw [List.take_succ_eq_append_getElem h, bval_snoc, List.getD_eq_getElem?_getD, List.getElem?_eq_getElem h]; rfl
theorem bval_small (tb : List Bool) (k : Nat) (h : k ≤ 18) : bval (tb.take k) < 1048576 := by
  have h1 := bval_lt (tb.take k)
  have h2 : 2 ^ (tb.take k).length ≤ 2 ^ 18 := Nat.pow_le_pow_right (by decide) (Nat.le_trans (List.length_take_le _ _) h)
  have h3 : (2 : Nat) ^ 18 = 262144 := by decide
  omega
/-- A format's block. -/
abbrev FI (w : World) (F l m : Nat) : Prop := Blk w F [intc l, u8c m] 341
theorem u64_shr3 (t : Nat) (h : t < 32) : bits .and .u64 ((t : Int) / 8) 3 = ((t / 8 : Nat) : Int) ∧ bits .and .u64 (t : Int) 7 = ((t % 8 : Nat) : Int) := by
  have : ∀ t : Nat, t < 32 → bits .and .u64 ((t : Int) / 8) 3 = ((t / 8 : Nat) : Int) ∧ bits .and .u64 (t : Int) 7 = ((t % 8 : Nat) : Int) := by decide
  exact this t h
set_option maxRecDepth 100000 in
set_option maxHeartbeats 1000000 in
theorem newFormat_c (t : Nat) (ht : t < 32) (w : World) : Calls Tryz.prog 266 #[.int .u64 (t : Int)] w fun e w' => e = .returned (ptv w.heap.size) ∧ FI w' w.heap.size (t / 8) (t % 8) ∧ Kept [] w w' := by
  obtain ⟨a1, a2⟩ := u64_shr3 t ht
  have hi : (t : Int) < 32 := by omega
  obtain ⟨l, hl⟩ : ∃ l, t / 8 = l := ⟨_, rfl⟩
  obtain ⟨m, hm⟩ : ∃ m, t % 8 = m := ⟨_, rfl⟩
  rw [hl] at a1
  rw [hm] at a2
  have h4 : l < 4 := by omega
  have h8 : (m : Int) < 8 := by omega
  have HL := Lib.hid hl
  have HM := Lib.hid hm
  clear hl hm
  go_enter Tryz.func266, Tryz.ntmps266
  go_wp2_with fail
  refine (levelFor_c l h4 w).mono ?_
  rintro e wx ⟨rfl, rfl⟩
  go_wp2_with fail
  go_ret
  refine ⟨rfl, ?_, (Kept.refl _ _).alloc _⟩
  rw [HL.out, HM.out]
  exact Blk.new _ _ _
end

section
def SomeInt (w : World) (e : Ending) (w' : World) : Prop := ∃ x : Int, e = .returned (.int .i64 x) ∧ w = w'
set_option maxRecDepth 100000 in
set_option maxHeartbeats 1000000 in
theorem ones64_c (v : Int) (w : World) : Calls Tryz.prog 277 #[.int .u64 v] w (SomeInt w) := by
  go_enter Tryz.func277, Tryz.ntmps277
  go_wp2_with fail
  go_ret
  exact ⟨_, rfl, rfl⟩
theorem ones_c (v : Int) (w : World) : Calls Tryz.prog 264 #[.int .u64 v] w (SomeInt w) := by
  go_enter Tryz.func264, Tryz.ntmps264
  go_wp2_with fail
  refine (ones64_c _ _).mono ?_
  rintro e wx ⟨x, rfl, rfl⟩
  go_wp2_with fail
  go_ret
  exact ⟨_, rfl, rfl⟩
theorem differing_c (a b : Int) (w : World) : Calls Tryz.prog 247 #[.int .u64 a, .int .u64 b] w (SomeInt w) := by
  go_enter Tryz.func247, Tryz.ntmps247
  go_wp2_with fail
  refine (ones_c _ _).mono ?_
  rintro e wx ⟨x, rfl, rfl⟩
  go_wp2_with fail
  go_ret
  exact ⟨_, rfl, rfl⟩
def fmtV (y x : Nat) : Value := .int .u64 ((if x = 0 then fmtCodes.getD y 0 else y : Nat) : Int)
set_option maxRecDepth 100000 in
set_option maxHeartbeats 1000000 in
theorem fmtTable_c (w : World) : Calls Tryz.prog 265 #[] w fun e w' => (∃ A, e = .returned (slv (A + 32) 32 32) ∧ Tab w' A 32 2 fmtV 152 386 ∧ w.heap.size ≤ A) ∧ Kept [] w w' := by
  go_enter Tryz.func265, Tryz.ntmps265
  go_wp2
  go_ret
  have h := tab_of w 32 2 fmtV 152 386
  exact ⟨⟨w.heap.size, rfl, h.1, Nat.le_refl _⟩, h.2⟩
theorem codes_apart : ∀ t, t < 32 → ∀ k, k < t → fmtCodes.getD k 0 ≠ fmtCodes.getD t 0 := by decide
theorem codes_lt : ∀ t, t < 32 → fmtCodes.getD t 0 < 32768 := by decide
set_option maxRecDepth 100000 in
set_option maxHeartbeats 4000000 in
theorem doDecode_c (t c : Nat) (ht : t < 32) (hc : fmtCodes.getD t 0 = c) (w : World) :
    Calls Tryz.prog 248 #[.int .u64 (c : Int), .int .u64 (c : Int)] w fun e w' => (∃ F, e = .returned (ptv F) ∧ FI w' F (t / 8) (t % 8) ∧ w.heap.size ≤ F) ∧ Kept [] w w' := by
  have HC := Lib.hid hc
  clear hc
  go_enter Tryz.func248, Tryz.ntmps248
  go_wp2_with fail
  refine (fmtTable_c w).mono ?_
  rintro e w1 ⟨⟨A, rfl, htab, hA⟩, hk⟩
  have HT := Lib.hid htab
  have HK := Lib.hid hk
  clear htab hk
  go_wp2_with fail
  go_loop [5, 6, 13] (fun s5 s6 s13 => ∃ (k : Nat) (x b : Int), k ≤ t ∧ s5 = .int .i64 x ∧ s6 = .int .u64 b ∧ s13 = .int .i64 (k : Int)) (fun _ _ s => (32 - intOf s).toNat)
  case atStart => exact ⟨0, _, _, by omega, rfl, rfl, rfl⟩
  case round =>
    obtain ⟨k, x, b, hk, rfl, rfl, rfl⟩ := hrel
    have k32 : k < 32 := by omega
    have ki : (k : Int) < 32 := by omega
    have o := HT.out.outer.at (rowOf_get (n := 32) (f := fun y => slv (A + y) 2 2) k32)
    have r0 := (HT.out.row k k32).at (rowOf_get (n := 2) (f := fmtV k) (show 0 < 2 by omega))
    have r1 := (HT.out.row k k32).at (rowOf_get (n := 2) (f := fmtV k) (show 1 < 2 by omega))
    simp only [fmtV, if_true, Nat.succ_ne_self, Nat.one_ne_zero, if_false] at r0 r1
    by_cases hlt : k < t
    · obtain ⟨d, hd⟩ : ∃ d, fmtCodes.getD k 0 = d := ⟨_, rfl⟩
      have hne : d ≠ c := by rw [← hd, ← HC.out]; exact codes_apart t ht k hlt
      rw [hd] at r0
      have hnei : ((d : Int) == (c : Int)) = false := by simp; omega
      clear hd hne
      go_wp2_with fail
      refine (differing_c _ _ _).mono ?_
      rintro e wx ⟨x1, rfl, rfl⟩
      by_cases hx : x1 < x
      · go_wp2_with fail
        go_round
        case rel => exact ⟨k + 1, x1, k, by omega, rfl, rfl, by go_num⟩
        case measure => simp [intOf]; omega
      · go_wp2_with fail
        go_round
        case rel => exact ⟨k + 1, x, b, by omega, rfl, rfl, by go_num⟩
        case measure => simp [intOf]; omega
    · obtain rfl : k = t := by omega
      rw [HC.out] at r0
      go_wp2_with fail
      refine (newFormat_c k k32 w1).mono ?_
      rintro e w2 ⟨rfl, hf, hk2⟩
      have HF := Lib.hid hf
      have HK2 := Lib.hid hk2
      clear hf hk2
      go_wp2_with fail
      go_ret
      exact ⟨⟨w1.heap.size, rfl, HF.out, HK.out.size⟩, HK.out.trans0 HK2.out⟩
theorem decodeFormat_c (t c : Nat) (ht : t < 32) (hc : fmtCodes.getD t 0 = c) (w : World) :
    Calls Tryz.prog 205 #[.int .u64 (c : Int), .int .u64 (c : Int)] w fun e w' => (∃ F, e = .returned (ptv F) ∧ FI w' F (t / 8) (t % 8) ∧ w.heap.size ≤ F) ∧ Kept [] w w' := by
  go_enter Tryz.func205, Tryz.ntmps205
  go_wp2_with fail
  refine (doDecode_c t c ht hc w).mono ?_
  rintro e w1 ⟨⟨F, rfl, hf, hl⟩, hk⟩
  have HF := Lib.hid hf
  have HK := Lib.hid hk
  clear hf hk hc
  go_wp2_with fail
  go_ret
  exact ⟨⟨F, rfl, HF.out, hl⟩, HK.out⟩
def verTab : List Nat := [31892, 34236, 39577, 42195, 48118, 51042, 55367, 58893, 63784, 68472, 70749, 76311, 79154, 84390, 87683, 92361, 96236, 102084, 102881, 110507, 110734, 117786, 119615, 126325, 127568, 133589, 136944, 141498, 145311, 150283, 152622, 158308, 161089, 167017]
set_option maxRecDepth 100000 in
set_option maxHeartbeats 1000000 in
theorem verTable_c (w : World) : Calls Tryz.prog 246 #[] w fun e w' => e = .returned (slv w.heap.size 34 34) ∧ Blk w' w.heap.size (verTab.map intc) 3 ∧ Kept [] w w' := by
  go_enter Tryz.func246, Tryz.ntmps246
  go_wp2
  go_ret
  exact ⟨rfl, Blk.new w (verTab.map intc) 3, (Kept.refl _ _).alloc _⟩
set_option maxRecDepth 100000 in
set_option maxHeartbeats 2000000 in
theorem decodeVersion_c (w : World) : Calls Tryz.prog 204 #[.int .i64 31892] w fun e w' => (∃ V N, e = .returned (.tuple #[ptv V, .nilIface]) ∧ Ver w' V N 7 ∧ w.heap.size ≤ N) ∧ Kept [] w w' := by
  go_enter Tryz.func204, Tryz.ntmps204
  go_wp2_with fail
  refine (verTable_c w).mono ?_
  rintro e w1 ⟨rfl, hb, hk⟩
  have c0 := hb.at (i := 0) (v := .int .i64 31892) rfl
  have HK := Lib.hid hk
  clear hb hk
  go_wp2_with fail
  go_loop [11] (fun s => s = .int .i64 0) (fun _ => 0)
  case atStart => exact rfl
  case round =>
    obtain rfl := hrel
    go_wp2_with fail
    refine (version_c 7 (by omega) (by omega) w1).mono ?_
    rintro e w2 ⟨⟨V, N, rfl, hv, hl⟩, hk2⟩
    have HV := Lib.hid hv
    have HK2 := Lib.hid hk2
    clear hv hk2
    go_wp2_with fail
    go_ret2
    exact ⟨⟨V, N, rfl, HV.out, by have := HK.out.size; omega⟩, HK.out.trans0 HK2.out⟩
end

section
set_option maxRecDepth 100000
set_option maxHeartbeats 1000000
theorem BS.next {w w' : World} {S D : Nat} {xs : List Nat} {p p' : Nat} {l : List Value} (h : BS w S D xs p) (hb : Blk w' S l 378) (hl : l = [slv D xs.length xs.length, intc (p' / 8), intc (p' % 8)]) (ha : Blk w' D (xs.map u8c) 5) (hp : p' ≤ 8 * xs.length) : BS w' S D xs p' :=
  ⟨hl ▸ hb, ha, h.lt, h.few, hp⟩
theorem set_twice (w : World) (b o : Nat) (x y : Value) : (w.setCell ⟨b, o, none⟩ x).setCell ⟨b, o, none⟩ y = w.setCell ⟨b, o, none⟩ y := by
  unfold World.setCell
  congr 1
  apply Array.ext_getElem?
  intro i
  simp only [Array.getElem?_modify]
  by_cases h : b = i
  · simp only [h, if_true]
    cases w.heap[i]? with
    | none => rfl
    | some z => cases z <;> simp
  · simp only [h, if_false]
theorem and_mask (nr t b : Nat) (h : nr + t ≤ 8) (hb : b < 256) : bits .and .u8 (b : Int) ((255 / 2 ^ (8 - t) * 2 ^ nr : Nat) : Int) = ((b / 2 ^ nr % 2 ^ t * 2 ^ nr : Nat) : Int) := by
  have H : (List.range 9).all (fun nr => (List.range 9).all fun t => (List.range 256).all fun b => decide (8 < nr + t) || bits .and .u8 (b : Int) ((255 / 2 ^ (8 - t) * 2 ^ nr : Nat) : Int) == ((b / 2 ^ nr % 2 ^ t * 2 ^ nr : Nat) : Int)) = true := by kernel_rfl
  rw [List.all_eq_true] at H
  have h1 := H nr (List.mem_range.2 (by omega))
  rw [List.all_eq_true] at h1
  have h2 := h1 t (List.mem_range.2 (by omega))
  rw [List.all_eq_true] at h2
  have h3 := h2 b (List.mem_range.2 hb)
  rw [Bool.or_eq_true, decide_eq_true_iff, beq_iff_eq] at h3
  rcases h3 with h3 | h3
  · omega
  · exact h3
theorem or_join (c a t m : Nat) (hm : m = 2 ^ t) (ha : a < m) (hM : m ≤ 65536) (hc : c < 65536) : bits .or .i64 ((c : Int) * (m : Int)) (a : Int) = ((c * m + a : Nat) : Int) := by
  have h0 : c * m ≤ 65536 * 65536 := Nat.mul_le_mul (by omega) hM
  have h := i64_or_nat (c * m) a (by omega) (by omega)
  have e : c * m ||| a = c * m + a := by
    subst hm
    rw [Nat.mul_comm c (2 ^ t)]
    exact (Nat.two_pow_add_eq_or_of_lt ha c).symm
  rw [e] at h
  rw [show (c : Int) * (m : Int) = ((c * m : Nat) : Int) by simp]
  exact h
theorem BS.ne {w : World} {S D : Nat} {xs : List Nat} {p : Nat} (h : BS w S D xs p) : S ≠ D := fun e => by have := Blk.type (e ▸ h.st) h.ar; cases this
theorem BS.heads {w : World} {S D : Nat} {xs : List Nat} {q r : Nat} (h : BS w S D xs (8 * q + r)) (hr : r < 8) :
    w.cell? ⟨S, 0, none⟩ = some (slv D xs.length xs.length) ∧ w.cell? ⟨S, 1, none⟩ = some (intc q) ∧ w.cell? ⟨S, 2, none⟩ = some (intc r) ∧ w.frozen? ⟨S, 1, none⟩ = false ∧ w.frozen? ⟨S, 2, none⟩ = false := by
  have g1 := h.st.at (i := 1) rfl
  have g2 := h.st.at (i := 2) rfl
  rw [show (8 * q + r) / 8 = q by omega] at g1
  rw [show (8 * q + r) % 8 = r by omega] at g2
  exact ⟨h.st.at (i := 0) rfl, g1, g2, h.st.free 1, h.st.free 2⟩
theorem BS.byte {w : World} {S D : Nat} {xs : List Nat} {p : Nat} (h : BS w S D xs p) (j : Nat) (hj : j < xs.length) :
    ∃ b : Nat, xs[j]? = some b ∧ b < 256 ∧ w.cell? ⟨D, j, none⟩ = some (.int .u8 (b : Int)) ∧ (b : Int) < 256 := by
  have hx : xs[j]? = some xs[j] := List.getElem?_eq_getElem hj
  have hb : xs[j] < 256 := h.lt _ (List.mem_of_getElem? hx)
  exact ⟨_, hx, hb, h.ar.at (by rw [List.getElem?_map, hx]; rfl), by omega⟩
theorem BS.avail {w : World} {S D : Nat} {xs : List Nat} {p av : Nat} (h : BS w S D xs p) (hav : 8 * xs.length - p = av) : Hid (Calls Tryz.prog 226 #[ptv S] w fun e w' => e = .returned (intc av) ∧ ∃ k, w' = w.drewN k) :=
  Lib.hid (by have := available_c h; rw [hav] at this; exact this)
theorem part_lt {b n t a m : Nat} (ha : b / 2 ^ n % 2 ^ t = a) (hm : m = 2 ^ t) : a < m := by rw [← ha, hm]; exact Nat.mod_lt _ (Nat.two_pow_pos t)
theorem and_part {nr t b a : Nat} (M m : Int) (h : nr + t ≤ 8) (hM : M = ((255 / 2 ^ (8 - t) * 2 ^ nr : Nat) : Int)) (hm : m = ((2 ^ nr : Nat) : Int)) (hb : b < 256) (ha : b / 2 ^ nr % 2 ^ t = a) : bits .and .u8 (b : Int) M = (a : Int) * m := by
  have := and_mask nr t b h hb
  rw [ha, ← hM] at this
  rw [this, hm, Int.natCast_mul]
theorem and_part0 {t b a : Nat} (M : Int) (h : 0 + t ≤ 8) (hM : M = ((255 / 2 ^ (8 - t) * 2 ^ 0 : Nat) : Int)) (hb : b < 256) (ha : b / 2 ^ 0 % 2 ^ t = a) : bits .and .u8 (b : Int) M = (a : Int) := by
  have := and_part M 1 h hM rfl hb ha
  rw [this, Int.mul_one]
theorem rd_part {xs : List Nat} {p i o t nr b a : Nat} (hp : p = 8 * i + o) (hx : xs[i]? = some b) (h : nr = 8 - o - t ∧ o + t ≤ 8) (ha : b / 2 ^ nr % 2 ^ t = a) : rd (byteBits xs) p t = a := by
  rw [← ha, hp, h.1]
  exact rd_in xs i o t b hx h.2
theorem or_first (a : Nat) (h : a < 65536) : bits .or .i64 0 (a : Int) = a := by
  have := i64_or_nat 0 a (by decide) (by omega)
  rw [Nat.zero_or] at this
  exact this
theorem or_more {c a e m : Nat} (t : Nat) (n : Int) (hn : n = (m : Int)) (he : c * m + a = e) (hm : m = 2 ^ t) (ha : a < m) (hM : m ≤ 65536) (hc : c < 65536) : bits .or .i64 ((c : Int) * n) (a : Int) = (e : Int) := by
  rw [← he, hn]
  exact or_join c a t m hm ha hM hc
theorem rd_more {xs : List Nat} {p a b x y z m : Nat} (h : p + a + b ≤ 8 * xs.length) (h1 : rd (byteBits xs) p a = x) (h2 : rd (byteBits xs) (p + a) b = y) (h3 : x * m + y = z) (hm : m = 2 ^ b := by rfl) : rd (byteBits xs) p (a + b) = z := by
  rw [rd_add _ _ _ _ (by rw [byteBits_len]; omega), h1, h2, ← h3, hm]
theorem drewN_set : ∀ (W : World) (k : Nat) (a : Addr) (v : Value), (W.drewN k).setCell a v = (W.setCell a v).drewN k := fun _ _ _ _ => rfl
theorem set_twice' (S i : Nat) : ∀ (W : World) (x y : Value), (W.setCell ⟨S, i, none⟩ x).setCell ⟨S, i, none⟩ y = W.setCell ⟨S, i, none⟩ y := fun W x y => set_twice W S i x y
/-- k bits are read at bit p. -/
abbrev ReadOk (w : World) (S D : Nat) (xs : List Nat) (p k : Nat) : Prop :=
  Calls Tryz.prog 227 #[ptv S, .int .i64 k] w fun e w' => e = .returned (.tuple #[intc (rd (byteBits xs) p k), .nilIface]) ∧ BS w' S D xs (p + k) ∧ Kept [S] w w'
end
end Go.Proofs.YtplpafbkalkchaaGreatDoor
