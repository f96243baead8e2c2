/- Walks: the highest bit, the code words of the format and of the version. Walks: the bits of the format and of the version. Walks: the versions 1 to 7 as they lie in memory. Walks: versionOf at 1 to 7. (Printed by gen_v2.py.) Walks: a version's number; the bits that name version 7. -/
import Derived.Lib.Tables
import Derived.Lib.BitFns
import Derived.Lib.Walk
import Derived.Lib.Small
import Derived.Test.YtplpafbkalkchaaGreatDoorW02
import Derived.Test.YtplpafbkalkchaaGreatDoorW01
namespace Go.Proofs.YtplpafbkalkchaaGreatDoor
open Go Go.RowKit Go.Proofs
set_option linter.all false

section
set_option maxRecDepth 100000 in
set_option maxHeartbeats 400000 in
theorem len32_c (x : Int) (h0 : 0 ≤ x) (h1 : x < 32768) (w : World) :
   Calls Tryz.prog 272 #[.int .u32 x] w fun e w' => e = .returned (.int .i64 (Lib.bitLen x.toNat)) ∧ w' = w := by
  have u9 := run_underlying Tryz.underlying9
  have t9 := Tryz.underlying9
  by_cases h : 256 ≤ x
  · have ix : ∀ w : World, (Instr.index 9 (.string Lib.len8tab) (.int .u8 (x / 256))).run Tryz.prog w = .ok (.int .u8 (Lib.len8 (x / 256))) w := fun w => Lib.run_index_len8tab w 9 .u8 (x / 256) t9 (by omega) (by omega)
    have hb : (Lib.len8 (x / 256) + 8) = (Lib.bitLen x.toNat : Int) := by
      have h2 := Lib.len8_eq ⟨(x / 256).toNat, by omega⟩
      have e : ((x / 256).toNat : Int) = x / 256 := by omega
      simp only [e] at h2
      have s := Lib.bitLen_shift8 x.toNat (by omega) (by omega)
      have e2 : (x / 256).toNat = x.toNat / 256 := by omega
      rw [h2, s, e2]; omega
    go_enter Tryz.func272, Tryz.ntmps272
    have hl : Lib.bitLen x.toNat ≤ 16 := Lib.bitLen_le x.toNat 16 (by omega) (by omega)
    go_wp2_with fail
    go_ret
    exact ⟨ret_int (by omega), rfl⟩
  · have ix : ∀ w : World, (Instr.index 9 (.string Lib.len8tab) (.int .u8 x)).run Tryz.prog w = .ok (.int .u8 (Lib.len8 x)) w := fun w => Lib.run_index_len8tab w 9 .u8 x t9 (by omega) (by omega)
    have hb : Lib.len8 x = (Lib.bitLen x.toNat : Int) := by
      have h2 := Lib.len8_eq ⟨x.toNat, by omega⟩
      have e : (x.toNat : Int) = x := by omega
      simp only [e] at h2
      exact h2
    have hb8 : Lib.bitLen x.toNat ≤ 8 := Lib.bitLen_le8 ⟨x.toNat, by omega⟩
    go_enter Tryz.func272, Tryz.ntmps272
    go_wp2_with fail
    go_ret
    exact ⟨ret_int (by omega), rfl⟩
set_option maxRecDepth 100000 in
set_option maxHeartbeats 400000 in
theorem findMSB_c (x : Nat) (h1 : x < 32768) (w : World) :
   Calls Tryz.prog 220 #[.int .i64 (x : Int)] w fun e w' => e = .returned (.int .i64 (Lib.bitLen x : Int)) ∧ w = w' := by
  have hx : (x : Int) < 32768 := by omega
  have hl : (Lib.bitLen x : Int) ≤ 16 := by
    have := Lib.bitLen_le x 16 (by omega) (by omega); omega
  go_enter Tryz.func220, Tryz.ntmps220
  go_wp2_with fail
  go_in
  go_wp2_with fail
  refine (len32_c x (by omega) (by omega) w).mono ?_
  rintro e w1 ⟨rfl, rfl⟩
  rw [Int.toNat_natCast]
  go_wp2_with fail
  go_ret
  exact ⟨ret_int (by omega), rfl⟩
/-- One step of the division: the polynomial, below the highest bit. -/
def bchStep (p v : Nat) : Nat := if Lib.bitLen p ≤ Lib.bitLen v then v ^^^ (p <<< (Lib.bitLen v - Lib.bitLen p)) else v
def bchIter (p v : Nat) : Nat → Nat
  | 0 => v
  | j + 1 => bchStep p (bchIter p v j)
/-- What is left of v, shifted up, behind the division by p: 6 steps are enough. -/
def bch (p v : Nat) : Nat := bchIter p (v <<< (Lib.bitLen p - 1)) 6
/-- The steps go down, and end. -/
def bchFine (p v : Nat) : Prop := ∀ j, j ≤ 6 → bchIter p (v <<< (Lib.bitLen p - 1)) j < 32768 ∧
  (Lib.bitLen p ≤ Lib.bitLen (bchIter p (v <<< (Lib.bitLen p - 1)) j) → j < 6 ∧ bchIter p (v <<< (Lib.bitLen p - 1)) (j + 1) < bchIter p (v <<< (Lib.bitLen p - 1)) j ∧ p <<< (Lib.bitLen (bchIter p (v <<< (Lib.bitLen p - 1)) j) - Lib.bitLen p) < 32768) ∧
  (¬ Lib.bitLen p ≤ Lib.bitLen (bchIter p (v <<< (Lib.bitLen p - 1)) j) → bchIter p (v <<< (Lib.bitLen p - 1)) j = bch p v)
instance (p v : Nat) : Decidable (bchFine p v) := by unfold bchFine; infer_instance
theorem bchFine_type : ∀ v, v < 32 → bchFine 1335 v := by decide +kernel
theorem bchFine_seven : bchFine 7973 7 := by decide +kernel
theorem bitLen_polys : Lib.bitLen 1335 = 11 ∧ Lib.bitLen 7973 = 13 := by decide +kernel
theorem i64_xor_nat (a b : Nat) (ha : a < 32768) (hb : b < 32768) : bits .xor .i64 (a : Int) (b : Int) = ((a ^^^ b : Nat) : Int) := by
  have h : a ^^^ b < 32768 := Nat.xor_lt_two_pow (n := 15) ha hb
  have e : ∀ c : Nat, c < 32768 → (BitVec.ofInt 64 (c : Int)).toNat = c := by
    intro c hc
    rw [BitVec.toNat_ofInt]; omega
  show IntKind.i64.wrap ((BitVec.ofInt 64 (a : Int) ^^^ BitVec.ofInt 64 (b : Int)).toNat : Int) = _
  rw [BitVec.toNat_xor, e a ha, e b hb, IntKind.wrap_i64]
  omega
def K15 : Nat := 32768
theorem K15_eq : K15 = 32768 := rfl
set_option maxRecDepth 100000 in
set_option maxHeartbeats 1000000 in
theorem bch_c (v p b : Nat) (hf : bchFine p v) (hp : p < 32768) (hb : Lib.bitLen p = b + 1) (hb13 : b ≤ 12) (hv : v < 32) (hp0 : 0 < p) (w : World) :
   Calls Tryz.prog 190 #[.int .i64 (v : Int), .int .i64 (p : Int)] w fun e w' => e = .returned (.tuple #[.int .i64 (bch p v : Int), .nilIface]) ∧ w = w' := by
  have HB := Lib.hid hb
  have hpi : (p : Int) < 32768 := by omega
  have hp0' : ((p : Int) == 0) = false := by rw [beq_eq_false_iff_ne]; omega
  obtain ⟨s, hs⟩ : ∃ s, v <<< b = s := ⟨_, rfl⟩
  have hsh : s < 262144 := by
    rw [← hs, Nat.shiftLeft_eq]
    have h1 : 2 ^ b ≤ 2 ^ 12 := Nat.pow_le_pow_right (by decide) hb13
    have h2 : v * 2 ^ b ≤ 31 * 4096 := Nat.mul_le_mul (by omega) h1
    omega
  have hs0 : (v : Int) * 2 ^ b = (s : Int) := by rw [← hs, Nat.shiftLeft_eq, Int.natCast_mul, Int.natCast_pow]; rfl
  have hs1 : wrap64 ((v : Int) * 2 ^ b) = (s : Int) := by rw [hs0]; unfold wrap64; omega
  have hfine : ∀ j, j ≤ 6 → bchIter p s j < K15 ∧
    (b + 1 ≤ Lib.bitLen (bchIter p s j) → j < 6 ∧ bchIter p s (j + 1) < bchIter p s j ∧ p <<< (Lib.bitLen (bchIter p s j) - (b + 1)) < K15) ∧
    (¬ b + 1 ≤ Lib.bitLen (bchIter p s j) → bchIter p s j = bch p v) := by
    have := hf; unfold bchFine at this; unfold K15; rw [hb, Nat.add_sub_cancel, hs] at this; exact this
  have HF := Lib.hid hfine
  clear hb hs0 hs hf hfine hsh
  go_enter Tryz.func190, Tryz.ntmps190
  go_wp2_with fail
  refine (findMSB_c p hp w).mono ?_
  rintro e w1 ⟨rfl, rfl⟩
  rw [HB.out]
  go_wp2_with fail
  clear hpi hp
  simp only [hs1]
  clear hs1
  go_loop [0] (fun a => ∃ x j, x = bchIter p s j ∧ j ≤ 6 ∧ a = .int .i64 (x : Int)) (fun a => (intOf a).toNat)
  case atStart => exact ⟨s, 0, rfl, by omega, rfl⟩
  case round =>
    obtain ⟨x, j, hx, hj, rfl⟩ := hrel
    obtain ⟨f1, f2, f3⟩ := HF.out j hj
    rw [← hx] at f1 f2 f3
    have hxs : bchIter p s (j + 1) = bchStep p x := by rw [hx]; rfl
    rw [hxs] at f2
    unfold bchStep at f2
    rw [HB.out] at f2
    have HX := Lib.hid hx; clear hx
    have HXS := Lib.hid hxs; clear hxs
    obtain ⟨l, hl⟩ : ∃ l, Lib.bitLen x = l := ⟨_, rfl⟩
    have hl16 : Lib.bitLen x ≤ 16 := Lib.bitLen_le x 16 (by omega) (by unfold K15 at f1; omega)
    rw [hl] at f2 f3 hl16
    have HL := Lib.hid hl; clear hl
    have F1 := Lib.hid f1; have F2 := Lib.hid f2; have F3 := Lib.hid f3; have HL16 := Lib.hid hl16; clear f1 f2 f3 hl16
    by_cases hc : b + 1 ≤ l
    · obtain ⟨hj6, hlt, hps⟩ := F2.out hc
      rw [if_pos hc] at hlt
      have f1 := F1.out
      obtain ⟨z, hz⟩ : ∃ z, p <<< (l - (b + 1)) = z := ⟨_, rfl⟩
      rw [hz] at hlt hps
      have hz0 : ((z : Nat) : Int) = (p : Int) * 2 ^ (l - (b + 1)) := by rw [← hz, Nat.shiftLeft_eq, Int.natCast_mul, Int.natCast_pow]; rfl
      have hsz : wrap64 ((p : Int) * 2 ^ (l - (b + 1))) = (z : Int) := by rw [← hz0]; unfold K15 at hps; unfold wrap64; omega
      have hxz := i64_xor_nat x z (by unfold K15 at f1; exact f1) (by unfold K15 at hps; exact hps)
      have HLT := Lib.hid hlt
      have hl16 : l ≤ 16 := HL16.out
      have HZ := Lib.hid hz
      clear hz0 hlt hz f1 hps
      go_wp2_with fail
      refine (findMSB_c x (by have := F1.out; rw [K15_eq] at this; exact this) w).mono ?_
      rintro e w1 ⟨rfl, rfl⟩
      rw [HL.out]
      go_wp2_with fail
      refine (findMSB_c x (by have := F1.out; rw [K15_eq] at this; exact this) w).mono ?_
      rintro e w1 ⟨rfl, rfl⟩
      rw [HL.out]
      go_wp2_with fail
      go_round
      case rel =>
        refine ⟨x ^^^ z, j + 1, ?_, by omega, rfl⟩
        rw [HXS.out]; unfold bchStep
        rw [HB.out, HL.out, if_pos hc, HZ.out]
      case measure => simp [intOf]; have := HLT.out; omega
    · go_wp2_with fail
      refine (findMSB_c x (by have := F1.out; rw [K15_eq] at this; exact this) w).mono ?_
      rintro e w1 ⟨rfl, rfl⟩
      rw [HL.out]
      go_wp2_with fail
      go_ret2
      have := F3.out hc
      subst this
      exact ⟨rfl, rfl⟩
end

section
theorem BAto.small {B C L : Nat} {bs : List Bool} {r : Nat} {w w' : World} (h : BAto B C L bs r w w') (hL : L ≤ 1) (hb : bs.length ≤ 32) (h0 : 0 < bs.length) (hr : r ≤ 32) :
    ∃ C' x, BA w' B C' [x] bs ∧ Kept [B, C] w w' ∧ (C' = C ∨ w.heap.size ≤ C') := by
  obtain ⟨C', ws', hb', _, hk, hC, ht⟩ := h
  have hbig := hb'.big
  have hl : ws'.length = 1 := by omega
  match ws', hl with
  | [x], _ => exact ⟨C', x, hb', hk, hC⟩
/-- The 15 bits of the format: level and mask, the rest of their division, all turned by a mask. -/
def typeBits (t : Nat) : List Bool := xorBits (vbits t 5 5 ++ vbits (bch 1335 t) 10 10) (vbits 21522 15 15)
def versionBits7 : List Bool := vbits 7 6 6 ++ vbits (bch 7973 7) 12 12
theorem bch_lt : ∀ t, t < 32 → bch 1335 t < 1024 := by decide +kernel
theorem bch_lt7 : bch 7973 7 < 4096 := by decide +kernel
set_option maxRecDepth 100000 in
theorem validMask_c (m : Nat) (h : m < 8) (w : World) : Calls Tryz.prog 65 #[.int .i64 (m : Int)] w fun e w' => e = .returned (.bool true) ∧ w = w' := by
  have h0 : (0 : Int) ≤ m := by omega
  have h1 : (m : Int) < 8 := by omega
  go_enter Tryz.func65, Tryz.ntmps65
  go_wp2
  go_ret
  exact ⟨rfl, rfl⟩
theorem levelBits_c (l : Int) (w : World) : Calls Tryz.prog 189 #[.int .i64 l] w fun e w' => e = .returned (.int .i64 l) ∧ w = w' := by
  go_enter Tryz.func189, Tryz.ntmps189
  go_wp2
  go_ret
  exact ⟨rfl, rfl⟩
theorem modeBits_c (l : Int) (w : World) : Calls Tryz.prog 104 #[.int .i64 l] w fun e w' => e = .returned (.int .i64 l) ∧ w = w' := by
  go_enter Tryz.func104, Tryz.ntmps104
  go_wp2
  go_ret
  exact ⟨rfl, rfl⟩
set_option maxRecDepth 100000 in
set_option maxHeartbeats 1000000 in
theorem typeInfo_c (w : World) (l m B C : Nat) (hl : l < 4) (hm : m < 8) (h : BA w B C [0] []) :
   Calls Tryz.prog 151 #[.int .i64 (l : Int), .int .i64 (m : Int), ptv B] w fun e w' => e = .returned .nilIface ∧
     (∃ C' x, BA w' B C' [x] (typeBits (l * 8 + m))) ∧ Kept [B, C] w w' := by
  have hli : (l : Int) < 4 := by omega
  have ho : bits .or .i64 ((l : Int) * 8) (m : Int) = ((l * 8 + m : Nat) : Int) := by
    have h1 := i64_or_nat (l * 8) m (by omega) (by omega)
    rw [show ((l * 8 : Nat) : Int) = (l : Int) * 8 from by omega] at h1
    rw [h1]
    rw [nat_join 3 (l * 8) m (by omega) (by omega)]
  obtain ⟨t, ht⟩ : ∃ t, l * 8 + m = t := ⟨_, rfl⟩
  rw [ht] at ho ⊢
  have ht32 : t < 32 := by omega
  have HB := Lib.hid (bch_lt t ht32)
  clear ht
  go_enter Tryz.func151, Tryz.ntmps151
  go_wp2_with fail
  refine (validMask_c m hm w).mono ?_
  rintro e w0 ⟨rfl, rfl⟩
  go_wp2_with fail
  refine (levelBits_c l w).mono ?_
  rintro e w0 ⟨rfl, rfl⟩
  go_wp2_with fail
  refine (appendBits_c w B C [0] [] h t 5 (by omega) (by omega) (by simp)).mono ?_
  rintro e w1 ⟨rfl, hto⟩
  obtain ⟨C1, x1, hb1, hk1, hC1⟩ := hto.small (by simp) (by simp [vbits]) (by simp [vbits]) (by omega)
  go_wp2_with fail
  refine (bch_c t 1335 10 (bchFine_type t ht32) (by omega) bitLen_polys.1 (by omega) ht32 (by omega) w1).mono ?_
  rintro e w2 ⟨rfl, rfl⟩
  go_wp2_with fail
  refine (appendBits_c w1 B C1 [x1] _ hb1 (bch 1335 t) 10 (by have := HB.out; omega) (by omega) (by simp [vbits])).mono ?_
  rintro e w2 ⟨rfl, hto2⟩
  obtain ⟨C2, x2, hb2, hk2, hC2⟩ := hto2.small (by simp) (by simp [vbits]) (by simp [vbits]) (by omega)
  go_wp2_with fail
  refine (NewEmpty_c w2).mono ?_
  rintro e w3 ⟨rfl, hb3, hk3, hs3⟩
  have HS3 := Lib.hid hs3; clear hs3
  obtain ⟨N, hN⟩ : ∃ N, w2.heap.size = N := ⟨_, rfl⟩
  have hBl := hb2.st.lt
  have hCl := hb2.ar.lt
  rw [hN] at hb3 hBl hCl ⊢
  have HN := Lib.hid hN; clear hN
  go_wp2_with fail
  refine (appendBits_c w3 (N + 1) N [0] [] hb3 21522 15 (by omega) (by omega) (by simp)).mono ?_
  rintro e w4 ⟨rfl, hto4⟩
  obtain ⟨C4, x4, hb4, hk4, hC4⟩ := hto4.small (by simp) (by simp [vbits]) (by simp [vbits]) (by omega)
  have hb42 : BA w4 B C2 [x2] ([] ++ vbits t 5 5 ++ vbits (bch 1335 t) 10 10) := (hb2.kept hk3 (by simp) (by simp)).kept hk4 (by simp; omega) (by simp; omega)
  have hC4' : N ≤ C4 := by
    rcases hC4 with rfl | h'
    · omega
    · have := HS3.out; have := HN.out; omega
  go_wp2_with fail
  refine (xor_c w4 B C2 (N + 1) C4 x2 x4 _ _ hb42 hb4 (by omega) (by omega) (by omega) (by simp [vbits])).mono ?_
  rintro e w5 ⟨rfl, hb5, hk5⟩
  go_wp2_with fail
  refine (getSize_c w5 B C2 _ _ hb5).mono ?_
  rintro e w6 ⟨rfl, rfl⟩
  have hlen : ((xorBits ([] ++ vbits t 5 5 ++ vbits (bch 1335 t) 10 10) ([] ++ vbits 21522 15 15)).length : Int) = 15 := by
    simp [xorBits, vbits]
  rw [hlen]
  go_wp2_with fail
  go_ret
  have s1 := hk1.size
  have s2 := hk2.size
  have s3 := HN.out
  refine ⟨rfl, ⟨C2, _, hb5⟩, ?_⟩
  have k2 : Kept [B, C] w w2 := hk1.trans hk2 (by intro x hx hl; simp at hx ⊢; omega)
  have k4 : Kept [B, C] w w4 := (k2.trans0 hk3).trans hk4 (by intro x hx hl; simp at hx ⊢; omega)
  exact k4.trans hk5 (by intro x hx hl; simp at hx ⊢; omega)
end

section
/-- The blocks of a level: the words of error correction of each, and runs: how many blocks, with how many data words. -/
structure ECD where
  ec : Nat
  runs : List (Nat × Nat)
/-- A version's middles of alignment patterns, and its levels L, M, Q, H. -/
structure VerD where
  centers : List Nat
  levels : List ECD
def ECD.count (e : ECD) : Nat := (e.runs.map (·.1)).sum
def ECD.total (e : ECD) : Nat := (e.runs.map fun r => r.1 * (r.2 + e.ec)).sum
abbrev intc (n : Nat) : Value := .int .i64 (n : Int)
def ECD.cells (e : ECD) : List Value := e.runs.flatMap fun r => [intc r.1, intc r.2]
def verData : Nat → VerD
  | 1 => ⟨[], [⟨7, [(1, 19)]⟩, ⟨10, [(1, 16)]⟩, ⟨13, [(1, 13)]⟩, ⟨17, [(1, 9)]⟩]⟩
  | 2 => ⟨[6, 18], [⟨10, [(1, 34)]⟩, ⟨16, [(1, 28)]⟩, ⟨22, [(1, 22)]⟩, ⟨28, [(1, 16)]⟩]⟩
  | 3 => ⟨[6, 22], [⟨15, [(1, 55)]⟩, ⟨26, [(1, 44)]⟩, ⟨18, [(2, 17)]⟩, ⟨22, [(2, 13)]⟩]⟩
  | 4 => ⟨[6, 26], [⟨20, [(1, 80)]⟩, ⟨18, [(2, 32)]⟩, ⟨26, [(2, 24)]⟩, ⟨16, [(4, 9)]⟩]⟩
  | 5 => ⟨[6, 30], [⟨26, [(1, 108)]⟩, ⟨24, [(2, 43)]⟩, ⟨18, [(2, 15), (2, 16)]⟩, ⟨22, [(2, 11), (2, 12)]⟩]⟩
  | 6 => ⟨[6, 34], [⟨18, [(2, 68)]⟩, ⟨16, [(4, 27)]⟩, ⟨24, [(4, 19)]⟩, ⟨28, [(4, 15)]⟩]⟩
  | _ => ⟨[6, 22, 38], [⟨20, [(2, 78)]⟩, ⟨18, [(4, 31)]⟩, ⟨18, [(2, 14), (4, 15)]⟩, ⟨26, [(4, 13), (1, 14)]⟩]⟩
def lev (k i : Nat) : ECD := (verData k).levels.getD i ⟨0, []⟩
def words (k : Nat) : Nat := (lev k 0).total
structure Ver (w : World) (V N k : Nat) : Prop where
  self : Blk w V [intc k, slv N (verData k).centers.length (verData k).centers.length, slv (N + 5) 4 4, intc (words k)] 207
  cen : Blk w N ((verData k).centers.map intc) 3
  levs : Blk w (N + 5) [intc (lev k 0).ec, slv (N + 1) (lev k 0).runs.length (lev k 0).runs.length, intc (lev k 1).ec, slv (N + 2) (lev k 1).runs.length (lev k 1).runs.length,
    intc (lev k 2).ec, slv (N + 3) (lev k 2).runs.length (lev k 2).runs.length, intc (lev k 3).ec, slv (N + 4) (lev k 3).runs.length (lev k 3).runs.length] 204
  run : ∀ i, i < 4 → Blk w (N + 1 + i) (lev k i).cells 217
  lt : N + 5 < V
theorem Ver.kept {w w' : World} {V N k : Nat} {S : List Nat} (h : Ver w V N k) (hk : Kept S w w') (hS : ∀ x ∈ S, x < N ∨ V < x) : Ver w' V N k := by
  have hn : ∀ x, N ≤ x → x ≤ V → x ∉ S := fun x h1 h2 hx => by have := hS x hx; omega
  have := h.lt
  exact ⟨hk.blk h.self (hn _ (by omega) (by omega)), hk.blk h.cen (hn _ (by omega) (by omega)), hk.blk h.levs (hn _ (by omega) (by omega)),
    fun i hi => hk.blk (h.run i hi) (hn _ (by omega) (by omega)), h.lt⟩
theorem ecWords_c (w : World) (E i n : Nat) (cs : List Value) (T : TypeId) (h : Blk w E cs T) (hn : cs[i]? = some (intc n)) :
   Calls Tryz.prog 171 #[.pointer (some ⟨E, i, none⟩)] w fun e w' => e = .returned (intc n) ∧ w = w' := by
  have h1 := h.at hn
  unfold intc at h1 ⊢
  go_enter Tryz.func171, Tryz.ntmps171
  go_wp2
  go_ret
  exact ⟨rfl, rfl⟩
theorem ecBlocks_c (w : World) (E i : Nat) (v : Value) (cs : List Value) (T : TypeId) (a : Option Addr) (l c : Nat) (hv : v = .slice a l c) (h : Blk w E cs T) (hn : cs[i + 1]? = some v) :
   Calls Tryz.prog 172 #[.pointer (some ⟨E, i, none⟩)] w fun e w' => e = .returned v ∧ w = w' := by
  have h1 := h.at hn
  subst hv
  go_enter Tryz.func172, Tryz.ntmps172
  go_wp2
  go_ret
  exact ⟨rfl, rfl⟩
theorem count_c (c d : Int) (w : World) : Calls Tryz.prog 122 #[.agg #[.int .i64 c, .int .i64 d]] w fun e w' => e = .returned (.int .i64 c) ∧ w.alloc (.cells #[.int .i64 c, .int .i64 d] 217) = w' := by
  go_enter Tryz.func122, Tryz.ntmps122
  go_wp2
  go_ret
  exact ⟨rfl, rfl⟩
theorem dataWords_c (c d : Int) (w : World) : Calls Tryz.prog 173 #[.agg #[.int .i64 c, .int .i64 d]] w fun e w' => e = .returned (.int .i64 d) ∧ w.alloc (.cells #[.int .i64 c, .int .i64 d] 217) = w' := by
  go_enter Tryz.func173, Tryz.ntmps173
  go_wp2
  go_ret
  exact ⟨rfl, rfl⟩
set_option maxHeartbeats 1000000 in
theorem newVersion_c (w : World) (k N E F : Nat) (nc : Nat) (e0 c d : Nat) (cs : List Value) (he : e0 ≤ 30) (hc : c ≤ 10) (hd : d ≤ 200)
    (hE : Blk w E cs 204) (h0 : cs[0]? = some (intc e0)) (h1 : cs[1]? = some (slv F 1 1))
    (hF : Blk w F [intc c, intc d] 217) :
   Calls Tryz.prog 137 #[intc k, slv N nc nc, slv E 4 4] w fun e w' => (∃ V, e = .returned (ptv V) ∧ w.heap.size ≤ V ∧
     Blk w' V [intc k, slv N nc nc, slv E 4 4, intc (c * (d + e0))] 207) ∧ Kept [] w w' := by
  have f0 := hF.at (i := 0) rfl
  have f1 := hF.at (i := 1) rfl
  obtain ⟨t, ht⟩ : ∃ t, c * (d + e0) = t := ⟨_, rfl⟩
  have htl : t ≤ 2300 := by rw [← ht]; exact Nat.le_trans (Nat.mul_le_mul hc (by omega : d + e0 ≤ 230)) (by omega)
  have hte : (c : Int) * ((d : Int) + (e0 : Int)) = (t : Int) := by rw [← ht, Int.natCast_mul, Int.natCast_add]
  rw [ht]
  have m1 : IntKind.i64.wrap ((d : Int) + (e0 : Int)) = (d : Int) + (e0 : Int) := by rw [IntKind.wrap_i64]; omega
  have m2 : IntKind.i64.wrap ((c : Int) * ((d : Int) + (e0 : Int))) = (t : Int) := by rw [hte, IntKind.wrap_i64]; omega
  have m3 : IntKind.i64.wrap (t : Int) = (t : Int) := by rw [IntKind.wrap_i64]; omega
  clear ht hte
  go_enter Tryz.func137, Tryz.ntmps137
  go_wp2_with fail
  refine (ecWords_c w E 0 e0 cs 204 hE h0).mono ?_
  rintro e w1 ⟨rfl, rfl⟩
  go_wp2_with fail
  refine (ecBlocks_c w E 0 _ cs 204 _ _ _ rfl hE h1).mono ?_
  rintro e w1 ⟨rfl, rfl⟩
  go_wp2_with fail
  go_loopw [7, 20] (fun t9 i wr => (t9 = .int .i64 0 ∧ i = .int .i64 0 ∧ wr = w) ∨ (t9 = .int .i64 (t : Int) ∧ i = .int .i64 1 ∧ Kept [] w wr)) (fun _ i _ => (1 - intOf i).toNat)
  case atStart => exact .inl ⟨rfl, rfl, rfl⟩
  case round =>
    rcases hrel with ⟨rfl, rfl, rfl⟩ | ⟨rfl, rfl, hk⟩
    · go_wp2_with fail
      have HB0 := Blk.new wr [Value.int .i64 (c : Int), Value.int .i64 (d : Int)] 217
      have HK0 : Kept [] wr (wr.alloc (Obj.cells #[Value.int IntKind.i64 ↑c, Value.int IntKind.i64 ↑d] 217)) := (Kept.refl _ _).alloc _
      change Blk (wr.alloc (Obj.cells #[Value.int IntKind.i64 ↑c, Value.int IntKind.i64 ↑d] 217)) _ _ _ at HB0
      generalize wr.alloc (Obj.cells #[Value.int IntKind.i64 ↑c, Value.int IntKind.i64 ↑d] 217) = W at HB0 HK0 ⊢
      have g0 := HB0.at (i := 0) rfl
      have g1 := HB0.at (i := 1) rfl
      have gl := HB0.lt
      generalize wr.heap.size = A at g0 g1 gl HB0 ⊢
      go_region_with (first | (go_at_call 122; refine (count_c _ _ _).mono ?_; rintro e wx ⟨rfl, rfl⟩) | (go_at_call 173; refine (dataWords_c _ _ _).mono ?_; rintro e wx ⟨rfl, rfl⟩))
      all_goals
        go_wp2_with fail
        go_roundw
        case rel => exact .inr ⟨rfl, rfl, by refine Kept.trans0 HK0 ?_; repeat (first | exact Kept.refl _ _ | apply Kept.alloc | apply Kept.drew)⟩
        case measure => simp [intOf]
    · go_wp2_with fail
      go_ret
      exact ⟨⟨_, rfl, hk.size, Blk.new wr [intc k, slv N nc nc, slv E 4 4, intc t] 207⟩, hk.alloc _⟩
end

section
/-- Six rows, made one behind the other. -/
def six (w : World) (a0 a1 a2 a3 a4 a5 : List Value) (t0 t1 t5 : TypeId) : World :=
  (((((w.alloc (.cells a0.toArray t0)).alloc (.cells a1.toArray t1)).alloc (.cells a2.toArray t1)).alloc (.cells a3.toArray t1)).alloc (.cells a4.toArray t1)).alloc (.cells a5.toArray t5)
theorem six_kept (w : World) (a0 a1 a2 a3 a4 a5 : List Value) (t0 t1 t5 : TypeId) : Kept [] w (six w a0 a1 a2 a3 a4 a5 t0 t1 t5) :=
  ((((((Kept.refl _ _).alloc _).alloc _).alloc _).alloc _).alloc _).alloc _
theorem blk_at {w : World} {b : Nat} (vs : List Value) (T : TypeId) (h : b = w.heap.size) : Blk (w.alloc (.cells vs.toArray T)) b vs T := by subst h; exact Blk.new w vs T
theorem six_blks (w : World) (a0 a1 a2 a3 a4 a5 : List Value) (t0 t1 t5 : TypeId) :
    Blk (six w a0 a1 a2 a3 a4 a5 t0 t1 t5) w.heap.size a0 t0 ∧ Blk (six w a0 a1 a2 a3 a4 a5 t0 t1 t5) (w.heap.size + 1) a1 t1 ∧ Blk (six w a0 a1 a2 a3 a4 a5 t0 t1 t5) (w.heap.size + 2) a2 t1 ∧
    Blk (six w a0 a1 a2 a3 a4 a5 t0 t1 t5) (w.heap.size + 3) a3 t1 ∧ Blk (six w a0 a1 a2 a3 a4 a5 t0 t1 t5) (w.heap.size + 4) a4 t1 ∧ Blk (six w a0 a1 a2 a3 a4 a5 t0 t1 t5) (w.heap.size + 5) a5 t5 ∧
    (six w a0 a1 a2 a3 a4 a5 t0 t1 t5).heap.size = w.heap.size + 6 := by
  unfold six
  exact ⟨(((((blk_at _ _ rfl).alloc _).alloc _).alloc _).alloc _).alloc _, ((((blk_at _ _ (by simp)).alloc _).alloc _).alloc _).alloc _, (((blk_at _ _ (by simp)).alloc _).alloc _).alloc _,
    ((blk_at _ _ (by simp)).alloc _).alloc _, (blk_at _ _ (by simp)).alloc _, blk_at _ _ (by simp), by simp⟩
set_option maxRecDepth 1000000 in
set_option maxHeartbeats 4000000 in
theorem versionOf1_c (w : World) :
   Calls Tryz.prog 108 #[intc 1] w fun e w' => (∃ V N, e = .returned (ptv V) ∧ Ver w' V N 1 ∧ w.heap.size ≤ N) ∧ Kept [] w w' := by
  obtain ⟨b0, b1, b2, b3, b4, b5, hs⟩ := six_blks w [] [intc 1, intc 19] [intc 1, intc 16] [intc 1, intc 13] [intc 1, intc 9] [intc 7, slv (w.heap.size + 1) 1 1, intc 10, slv (w.heap.size + 2) 1 1, intc 13, slv (w.heap.size + 3) 1 1, intc 17, slv (w.heap.size + 4) 1 1] 3 217 204
  have hk0 := six_kept w [] [intc 1, intc 19] [intc 1, intc 16] [intc 1, intc 13] [intc 1, intc 9] [intc 7, slv (w.heap.size + 1) 1 1, intc 10, slv (w.heap.size + 2) 1 1, intc 13, slv (w.heap.size + 3) 1 1, intc 17, slv (w.heap.size + 4) 1 1] 3 217 204
  have HS := Lib.hid hs; clear hs
  go_enter Tryz.func108, Tryz.ntmps108
  go_wp2_with fail
  refine (newVersion_c (six w [] [intc 1, intc 19] [intc 1, intc 16] [intc 1, intc 13] [intc 1, intc 9] [intc 7, slv (w.heap.size + 1) 1 1, intc 10, slv (w.heap.size + 2) 1 1, intc 13, slv (w.heap.size + 3) 1 1, intc 17, slv (w.heap.size + 4) 1 1] 3 217 204) 1 w.heap.size (w.heap.size + 5) (w.heap.size + 1) 0 7 1 19 _ (by omega) (by omega) (by omega) b5 rfl rfl b1).mono ?_
  rintro e w1 ⟨⟨V, rfl, hV, hb⟩, hk⟩
  go_wp2_with fail
  go_ret
  refine ⟨⟨V, w.heap.size, rfl, ⟨hb, hk.blk b0 (by simp), hk.blk b5 (by simp), fun i hi => ?_, by have := HS.out; omega⟩, Nat.le_refl _⟩, hk0.trans0 hk⟩
  match i, hi with
  | 0, _ => exact hk.blk b1 (by simp)
  | 1, _ => exact hk.blk b2 (by simp)
  | 2, _ => exact hk.blk b3 (by simp)
  | 3, _ => exact hk.blk b4 (by simp)
set_option maxRecDepth 1000000 in
set_option maxHeartbeats 4000000 in
theorem versionOf2_c (w : World) :
   Calls Tryz.prog 108 #[intc 2] w fun e w' => (∃ V N, e = .returned (ptv V) ∧ Ver w' V N 2 ∧ w.heap.size ≤ N) ∧ Kept [] w w' := by
  obtain ⟨b0, b1, b2, b3, b4, b5, hs⟩ := six_blks w [intc 6, intc 18] [intc 1, intc 34] [intc 1, intc 28] [intc 1, intc 22] [intc 1, intc 16] [intc 10, slv (w.heap.size + 1) 1 1, intc 16, slv (w.heap.size + 2) 1 1, intc 22, slv (w.heap.size + 3) 1 1, intc 28, slv (w.heap.size + 4) 1 1] 3 217 204
  have hk0 := six_kept w [intc 6, intc 18] [intc 1, intc 34] [intc 1, intc 28] [intc 1, intc 22] [intc 1, intc 16] [intc 10, slv (w.heap.size + 1) 1 1, intc 16, slv (w.heap.size + 2) 1 1, intc 22, slv (w.heap.size + 3) 1 1, intc 28, slv (w.heap.size + 4) 1 1] 3 217 204
  have HS := Lib.hid hs; clear hs
  go_enter Tryz.func108, Tryz.ntmps108
  go_wp2_with fail
  refine (newVersion_c (six w [intc 6, intc 18] [intc 1, intc 34] [intc 1, intc 28] [intc 1, intc 22] [intc 1, intc 16] [intc 10, slv (w.heap.size + 1) 1 1, intc 16, slv (w.heap.size + 2) 1 1, intc 22, slv (w.heap.size + 3) 1 1, intc 28, slv (w.heap.size + 4) 1 1] 3 217 204) 2 w.heap.size (w.heap.size + 5) (w.heap.size + 1) 2 10 1 34 _ (by omega) (by omega) (by omega) b5 rfl rfl b1).mono ?_
  rintro e w1 ⟨⟨V, rfl, hV, hb⟩, hk⟩
  go_wp2_with fail
  go_ret
  refine ⟨⟨V, w.heap.size, rfl, ⟨hb, hk.blk b0 (by simp), hk.blk b5 (by simp), fun i hi => ?_, by have := HS.out; omega⟩, Nat.le_refl _⟩, hk0.trans0 hk⟩
  match i, hi with
  | 0, _ => exact hk.blk b1 (by simp)
  | 1, _ => exact hk.blk b2 (by simp)
  | 2, _ => exact hk.blk b3 (by simp)
  | 3, _ => exact hk.blk b4 (by simp)
set_option maxRecDepth 1000000 in
set_option maxHeartbeats 4000000 in
theorem versionOf3_c (w : World) :
   Calls Tryz.prog 108 #[intc 3] w fun e w' => (∃ V N, e = .returned (ptv V) ∧ Ver w' V N 3 ∧ w.heap.size ≤ N) ∧ Kept [] w w' := by
  obtain ⟨b0, b1, b2, b3, b4, b5, hs⟩ := six_blks w [intc 6, intc 22] [intc 1, intc 55] [intc 1, intc 44] [intc 2, intc 17] [intc 2, intc 13] [intc 15, slv (w.heap.size + 1) 1 1, intc 26, slv (w.heap.size + 2) 1 1, intc 18, slv (w.heap.size + 3) 1 1, intc 22, slv (w.heap.size + 4) 1 1] 3 217 204
  have hk0 := six_kept w [intc 6, intc 22] [intc 1, intc 55] [intc 1, intc 44] [intc 2, intc 17] [intc 2, intc 13] [intc 15, slv (w.heap.size + 1) 1 1, intc 26, slv (w.heap.size + 2) 1 1, intc 18, slv (w.heap.size + 3) 1 1, intc 22, slv (w.heap.size + 4) 1 1] 3 217 204
  have HS := Lib.hid hs; clear hs
  go_enter Tryz.func108, Tryz.ntmps108
  go_wp2_with fail
  refine (newVersion_c (six w [intc 6, intc 22] [intc 1, intc 55] [intc 1, intc 44] [intc 2, intc 17] [intc 2, intc 13] [intc 15, slv (w.heap.size + 1) 1 1, intc 26, slv (w.heap.size + 2) 1 1, intc 18, slv (w.heap.size + 3) 1 1, intc 22, slv (w.heap.size + 4) 1 1] 3 217 204) 3 w.heap.size (w.heap.size + 5) (w.heap.size + 1) 2 15 1 55 _ (by omega) (by omega) (by omega) b5 rfl rfl b1).mono ?_
  rintro e w1 ⟨⟨V, rfl, hV, hb⟩, hk⟩
  go_wp2_with fail
  go_ret
  refine ⟨⟨V, w.heap.size, rfl, ⟨hb, hk.blk b0 (by simp), hk.blk b5 (by simp), fun i hi => ?_, by have := HS.out; omega⟩, Nat.le_refl _⟩, hk0.trans0 hk⟩
  match i, hi with
  | 0, _ => exact hk.blk b1 (by simp)
  | 1, _ => exact hk.blk b2 (by simp)
  | 2, _ => exact hk.blk b3 (by simp)
  | 3, _ => exact hk.blk b4 (by simp)
set_option maxRecDepth 1000000 in
set_option maxHeartbeats 4000000 in
theorem versionOf4_c (w : World) :
   Calls Tryz.prog 108 #[intc 4] w fun e w' => (∃ V N, e = .returned (ptv V) ∧ Ver w' V N 4 ∧ w.heap.size ≤ N) ∧ Kept [] w w' := by
  obtain ⟨b0, b1, b2, b3, b4, b5, hs⟩ := six_blks w [intc 6, intc 26] [intc 1, intc 80] [intc 2, intc 32] [intc 2, intc 24] [intc 4, intc 9] [intc 20, slv (w.heap.size + 1) 1 1, intc 18, slv (w.heap.size + 2) 1 1, intc 26, slv (w.heap.size + 3) 1 1, intc 16, slv (w.heap.size + 4) 1 1] 3 217 204
  have hk0 := six_kept w [intc 6, intc 26] [intc 1, intc 80] [intc 2, intc 32] [intc 2, intc 24] [intc 4, intc 9] [intc 20, slv (w.heap.size + 1) 1 1, intc 18, slv (w.heap.size + 2) 1 1, intc 26, slv (w.heap.size + 3) 1 1, intc 16, slv (w.heap.size + 4) 1 1] 3 217 204
  have HS := Lib.hid hs; clear hs
  go_enter Tryz.func108, Tryz.ntmps108
  go_wp2_with fail
  refine (newVersion_c (six w [intc 6, intc 26] [intc 1, intc 80] [intc 2, intc 32] [intc 2, intc 24] [intc 4, intc 9] [intc 20, slv (w.heap.size + 1) 1 1, intc 18, slv (w.heap.size + 2) 1 1, intc 26, slv (w.heap.size + 3) 1 1, intc 16, slv (w.heap.size + 4) 1 1] 3 217 204) 4 w.heap.size (w.heap.size + 5) (w.heap.size + 1) 2 20 1 80 _ (by omega) (by omega) (by omega) b5 rfl rfl b1).mono ?_
  rintro e w1 ⟨⟨V, rfl, hV, hb⟩, hk⟩
  go_wp2_with fail
  go_ret
  refine ⟨⟨V, w.heap.size, rfl, ⟨hb, hk.blk b0 (by simp), hk.blk b5 (by simp), fun i hi => ?_, by have := HS.out; omega⟩, Nat.le_refl _⟩, hk0.trans0 hk⟩
  match i, hi with
  | 0, _ => exact hk.blk b1 (by simp)
  | 1, _ => exact hk.blk b2 (by simp)
  | 2, _ => exact hk.blk b3 (by simp)
  | 3, _ => exact hk.blk b4 (by simp)
set_option maxRecDepth 1000000 in
set_option maxHeartbeats 4000000 in
theorem versionOf5_c (w : World) :
   Calls Tryz.prog 108 #[intc 5] w fun e w' => (∃ V N, e = .returned (ptv V) ∧ Ver w' V N 5 ∧ w.heap.size ≤ N) ∧ Kept [] w w' := by
  obtain ⟨b0, b1, b2, b3, b4, b5, hs⟩ := six_blks w [intc 6, intc 30] [intc 1, intc 108] [intc 2, intc 43] [intc 2, intc 15, intc 2, intc 16] [intc 2, intc 11, intc 2, intc 12] [intc 26, slv (w.heap.size + 1) 1 1, intc 24, slv (w.heap.size + 2) 1 1, intc 18, slv (w.heap.size + 3) 2 2, intc 22, slv (w.heap.size + 4) 2 2] 3 217 204
  have hk0 := six_kept w [intc 6, intc 30] [intc 1, intc 108] [intc 2, intc 43] [intc 2, intc 15, intc 2, intc 16] [intc 2, intc 11, intc 2, intc 12] [intc 26, slv (w.heap.size + 1) 1 1, intc 24, slv (w.heap.size + 2) 1 1, intc 18, slv (w.heap.size + 3) 2 2, intc 22, slv (w.heap.size + 4) 2 2] 3 217 204
  have HS := Lib.hid hs; clear hs
  go_enter Tryz.func108, Tryz.ntmps108
  go_wp2_with fail
  refine (newVersion_c (six w [intc 6, intc 30] [intc 1, intc 108] [intc 2, intc 43] [intc 2, intc 15, intc 2, intc 16] [intc 2, intc 11, intc 2, intc 12] [intc 26, slv (w.heap.size + 1) 1 1, intc 24, slv (w.heap.size + 2) 1 1, intc 18, slv (w.heap.size + 3) 2 2, intc 22, slv (w.heap.size + 4) 2 2] 3 217 204) 5 w.heap.size (w.heap.size + 5) (w.heap.size + 1) 2 26 1 108 _ (by omega) (by omega) (by omega) b5 rfl rfl b1).mono ?_
  rintro e w1 ⟨⟨V, rfl, hV, hb⟩, hk⟩
  go_wp2_with fail
  go_ret
  refine ⟨⟨V, w.heap.size, rfl, ⟨hb, hk.blk b0 (by simp), hk.blk b5 (by simp), fun i hi => ?_, by have := HS.out; omega⟩, Nat.le_refl _⟩, hk0.trans0 hk⟩
  match i, hi with
  | 0, _ => exact hk.blk b1 (by simp)
  | 1, _ => exact hk.blk b2 (by simp)
  | 2, _ => exact hk.blk b3 (by simp)
  | 3, _ => exact hk.blk b4 (by simp)
set_option maxRecDepth 1000000 in
set_option maxHeartbeats 4000000 in
theorem versionOf6_c (w : World) :
   Calls Tryz.prog 108 #[intc 6] w fun e w' => (∃ V N, e = .returned (ptv V) ∧ Ver w' V N 6 ∧ w.heap.size ≤ N) ∧ Kept [] w w' := by
  obtain ⟨b0, b1, b2, b3, b4, b5, hs⟩ := six_blks w [intc 6, intc 34] [intc 2, intc 68] [intc 4, intc 27] [intc 4, intc 19] [intc 4, intc 15] [intc 18, slv (w.heap.size + 1) 1 1, intc 16, slv (w.heap.size + 2) 1 1, intc 24, slv (w.heap.size + 3) 1 1, intc 28, slv (w.heap.size + 4) 1 1] 3 217 204
  have hk0 := six_kept w [intc 6, intc 34] [intc 2, intc 68] [intc 4, intc 27] [intc 4, intc 19] [intc 4, intc 15] [intc 18, slv (w.heap.size + 1) 1 1, intc 16, slv (w.heap.size + 2) 1 1, intc 24, slv (w.heap.size + 3) 1 1, intc 28, slv (w.heap.size + 4) 1 1] 3 217 204
  have HS := Lib.hid hs; clear hs
  go_enter Tryz.func108, Tryz.ntmps108
  go_wp2_with fail
  refine (newVersion_c (six w [intc 6, intc 34] [intc 2, intc 68] [intc 4, intc 27] [intc 4, intc 19] [intc 4, intc 15] [intc 18, slv (w.heap.size + 1) 1 1, intc 16, slv (w.heap.size + 2) 1 1, intc 24, slv (w.heap.size + 3) 1 1, intc 28, slv (w.heap.size + 4) 1 1] 3 217 204) 6 w.heap.size (w.heap.size + 5) (w.heap.size + 1) 2 18 2 68 _ (by omega) (by omega) (by omega) b5 rfl rfl b1).mono ?_
  rintro e w1 ⟨⟨V, rfl, hV, hb⟩, hk⟩
  go_wp2_with fail
  go_ret
  refine ⟨⟨V, w.heap.size, rfl, ⟨hb, hk.blk b0 (by simp), hk.blk b5 (by simp), fun i hi => ?_, by have := HS.out; omega⟩, Nat.le_refl _⟩, hk0.trans0 hk⟩
  match i, hi with
  | 0, _ => exact hk.blk b1 (by simp)
  | 1, _ => exact hk.blk b2 (by simp)
  | 2, _ => exact hk.blk b3 (by simp)
  | 3, _ => exact hk.blk b4 (by simp)
set_option maxRecDepth 1000000 in
set_option maxHeartbeats 4000000 in
theorem versionOf7_c (w : World) :
   Calls Tryz.prog 108 #[intc 7] w fun e w' => (∃ V N, e = .returned (ptv V) ∧ Ver w' V N 7 ∧ w.heap.size ≤ N) ∧ Kept [] w w' := by
  obtain ⟨b0, b1, b2, b3, b4, b5, hs⟩ := six_blks w [intc 6, intc 22, intc 38] [intc 2, intc 78] [intc 4, intc 31] [intc 2, intc 14, intc 4, intc 15] [intc 4, intc 13, intc 1, intc 14] [intc 20, slv (w.heap.size + 1) 1 1, intc 18, slv (w.heap.size + 2) 1 1, intc 18, slv (w.heap.size + 3) 2 2, intc 26, slv (w.heap.size + 4) 2 2] 3 217 204
  have hk0 := six_kept w [intc 6, intc 22, intc 38] [intc 2, intc 78] [intc 4, intc 31] [intc 2, intc 14, intc 4, intc 15] [intc 4, intc 13, intc 1, intc 14] [intc 20, slv (w.heap.size + 1) 1 1, intc 18, slv (w.heap.size + 2) 1 1, intc 18, slv (w.heap.size + 3) 2 2, intc 26, slv (w.heap.size + 4) 2 2] 3 217 204
  have HS := Lib.hid hs; clear hs
  go_enter Tryz.func108, Tryz.ntmps108
  go_wp2_with fail
  refine (newVersion_c (six w [intc 6, intc 22, intc 38] [intc 2, intc 78] [intc 4, intc 31] [intc 2, intc 14, intc 4, intc 15] [intc 4, intc 13, intc 1, intc 14] [intc 20, slv (w.heap.size + 1) 1 1, intc 18, slv (w.heap.size + 2) 1 1, intc 18, slv (w.heap.size + 3) 2 2, intc 26, slv (w.heap.size + 4) 2 2] 3 217 204) 7 w.heap.size (w.heap.size + 5) (w.heap.size + 1) 3 20 2 78 _ (by omega) (by omega) (by omega) b5 rfl rfl b1).mono ?_
  rintro e w1 ⟨⟨V, rfl, hV, hb⟩, hk⟩
  go_wp2_with fail
  go_ret
  refine ⟨⟨V, w.heap.size, rfl, ⟨hb, hk.blk b0 (by simp), hk.blk b5 (by simp), fun i hi => ?_, by have := HS.out; omega⟩, Nat.le_refl _⟩, hk0.trans0 hk⟩
  match i, hi with
  | 0, _ => exact hk.blk b1 (by simp)
  | 1, _ => exact hk.blk b2 (by simp)
  | 2, _ => exact hk.blk b3 (by simp)
  | 3, _ => exact hk.blk b4 (by simp)
theorem versionOf_c (k : Nat) (h1 : 1 ≤ k) (h7 : k ≤ 7) (w : World) :
   Calls Tryz.prog 108 #[intc k] w fun e w' => (∃ V N, e = .returned (ptv V) ∧ Ver w' V N k ∧ w.heap.size ≤ N) ∧ Kept [] w w' := by
  match k, h1, h7 with
  | 1, _, _ => exact versionOf1_c w
  | 2, _, _ => exact versionOf2_c w
  | 3, _, _ => exact versionOf3_c w
  | 4, _, _ => exact versionOf4_c w
  | 5, _, _ => exact versionOf5_c w
  | 6, _, _ => exact versionOf6_c w
  | 7, _, _ => exact versionOf7_c w
end

section
theorem verNumber_c {w : World} {V N k : Nat} (h : Ver w V N k) : Calls Tryz.prog 138 #[ptv V] w fun e w' => e = .returned (intc k) ∧ w = w' := by
  have h1 := h.self.at (i := 0) rfl
  clear h
  go_enter Tryz.func138, Tryz.ntmps138
  go_wp2
  go_ret
  exact ⟨rfl, rfl⟩
set_option maxRecDepth 100000 in
set_option maxHeartbeats 1000000 in
theorem versionInfo7_c (w : World) (V N B C : Nat) (h : BA w B C [0] []) (hV : Ver w V N 7) (n1 : B < N ∨ V < B) (n2 : C < N ∨ V < C) :
   Calls Tryz.prog 154 #[ptv V, ptv B] w fun e w' => e = .returned .nilIface ∧
     (∃ C' x, BA w' B C' [x] versionBits7) ∧ Kept [B, C] w w' := by
  have HB := Lib.hid bch_lt7
  go_enter Tryz.func154, Tryz.ntmps154
  go_wp2_with fail
  refine (verNumber_c hV).mono ?_
  rintro e w0 ⟨rfl, rfl⟩
  go_wp2_with fail
  refine (appendBits_c w B C [0] [] h 7 6 (by omega) (by omega) (by simp)).mono ?_
  rintro e w1 ⟨rfl, hto⟩
  obtain ⟨C1, x1, hb1, hk1, hC1⟩ := hto.small (by simp) (by simp [vbits]) (by simp [vbits]) (by omega)
  go_wp2_with fail
  refine (verNumber_c (hV.kept hk1 (by simp; omega))).mono ?_
  rintro e w2 ⟨rfl, rfl⟩
  go_wp2_with fail
  refine (bch_c 7 7973 12 bchFine_seven (by omega) bitLen_polys.2 (by omega) (by omega) (by omega) w1).mono ?_
  rintro e w2 ⟨rfl, rfl⟩
  go_wp2_with fail
  refine (appendBits_c w1 B C1 [x1] _ hb1 (bch 7973 7) 12 (by have := HB.out; omega) (by omega) (by simp [vbits])).mono ?_
  rintro e w2 ⟨rfl, hto2⟩
  obtain ⟨C2, x2, hb2, hk2, hC2⟩ := hto2.small (by simp) (by simp [vbits]) (by simp [vbits]) (by omega)
  go_wp2_with fail
  refine (getSize_c w2 B C2 _ _ hb2).mono ?_
  rintro e w6 ⟨rfl, rfl⟩
  have hlen : (([] ++ vbits 7 6 6 ++ vbits (bch 7973 7) 12 12).length : Int) = 18 := by
    simp [vbits]
  rw [hlen]
  go_wp2_with fail
  go_ret
  have s1 := hk1.size
  refine ⟨rfl, ⟨C2, _, hb2⟩, ?_⟩
  exact hk1.trans hk2 (by intro x hx hl; simp at hx ⊢; omega)
end
end Go.Proofs.YtplpafbkalkchaaGreatDoor
