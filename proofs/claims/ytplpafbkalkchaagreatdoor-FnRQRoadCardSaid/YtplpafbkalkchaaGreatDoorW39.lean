/- Walks: the masks of the decoder; a symbol is unmasked. Walks: a symbol is unmasked, mask by mask. -/
import Derived.Test.YtplpafbkalkchaaGreatDoorW23
import Derived.Test.YtplpafbkalkchaaGreatDoorW26
namespace Go.Proofs.YtplpafbkalkchaaGreatDoor
open Go Go.RowKit Go.Proofs
set_option linter.all false

section
theorem beq_end1 (a : Int) (P : Prop) [Decidable P] (h : a = 0 ↔ P) : Ending.returned (.bool (a == 0)) = Ending.returned (.bool (decide P)) := by
  have : (a == 0) = decide P := by by_cases e : a = 0 <;> simp [e, ← h]
  rw [this]
theorem dec_end1 (Q P : Prop) [Decidable Q] [Decidable P] (h : Q ↔ P) : Ending.returned (.bool (decide Q)) = Ending.returned (.bool (decide P)) := by rw [decide_eq_decide.2 h]
set_option maxRecDepth 100000 in
set_option maxHeartbeats 1000000 in
theorem unmask0_c (x y : Nat) (hx : x ≤ 200) (hy : y ≤ 200) (w : World) : Calls Tryz.prog 238 #[.int .i64 (y : Int), .int .i64 (x : Int)] w fun e w' => e = .returned (.bool (maskBit 0 x y)) ∧ w = w' := by
  have hxi : (x : Int) ≤ 200 := by omega
  have hyi : (y : Int) ≤ 200 := by omega
  obtain ⟨s, hs⟩ : ∃ s, y + x = s := ⟨_, rfl⟩
  obtain ⟨p, hp⟩ : ∃ p, y * x = p := ⟨_, rfl⟩
  have hp4 : p ≤ 40000 := by rw [← hp]; exact Nat.mul_le_mul hy hx
  have hpi : (y : Int) * (x : Int) = (p : Int) := by rw [← hp, Int.natCast_mul]
  have hsi : (y : Int) + (x : Int) = (s : Int) := by omega
  have a1 := and1 s (by omega)
  have a2 := and1 y (by omega)
  have a3 := and1 (y / 2 + x / 3) (by omega)
  have a4 := and1 (s + p % 3) (by omega)
  simp only [Int.natCast_add, Int.natCast_ediv, Int.natCast_emod] at a1 a2 a3 a4
  simp only [Int.cast_ofNat_Int] at a1 a2 a3 a4
  go_enter Tryz.func238, Tryz.ntmps238
  go_wp2_with fail
  go_ret
  refine ⟨?_, rfl⟩
  simp only [maskBit, hs, hp]
  first | exact beq_end1 _ _ (by omega) | exact dec_end1 _ _ (by omega)
set_option maxRecDepth 100000 in
set_option maxHeartbeats 1000000 in
theorem unmask1_c (x y : Nat) (hx : x ≤ 200) (hy : y ≤ 200) (w : World) : Calls Tryz.prog 239 #[.int .i64 (y : Int), .int .i64 (x : Int)] w fun e w' => e = .returned (.bool (maskBit 1 x y)) ∧ w = w' := by
  have hxi : (x : Int) ≤ 200 := by omega
  have hyi : (y : Int) ≤ 200 := by omega
  obtain ⟨s, hs⟩ : ∃ s, y + x = s := ⟨_, rfl⟩
  obtain ⟨p, hp⟩ : ∃ p, y * x = p := ⟨_, rfl⟩
  have hp4 : p ≤ 40000 := by rw [← hp]; exact Nat.mul_le_mul hy hx
  have hpi : (y : Int) * (x : Int) = (p : Int) := by rw [← hp, Int.natCast_mul]
  have hsi : (y : Int) + (x : Int) = (s : Int) := by omega
  have a1 := and1 s (by omega)
  have a2 := and1 y (by omega)
  have a3 := and1 (y / 2 + x / 3) (by omega)
  have a4 := and1 (s + p % 3) (by omega)
  simp only [Int.natCast_add, Int.natCast_ediv, Int.natCast_emod] at a1 a2 a3 a4
  simp only [Int.cast_ofNat_Int] at a1 a2 a3 a4
  go_enter Tryz.func239, Tryz.ntmps239
  go_wp2_with fail
  go_ret
  refine ⟨?_, rfl⟩
  simp only [maskBit, hs, hp]
  first | exact beq_end1 _ _ (by omega) | exact dec_end1 _ _ (by omega)
set_option maxRecDepth 100000 in
set_option maxHeartbeats 1000000 in
theorem unmask2_c (x y : Nat) (hx : x ≤ 200) (hy : y ≤ 200) (w : World) : Calls Tryz.prog 240 #[.int .i64 (y : Int), .int .i64 (x : Int)] w fun e w' => e = .returned (.bool (maskBit 2 x y)) ∧ w = w' := by
  have hxi : (x : Int) ≤ 200 := by omega
  have hyi : (y : Int) ≤ 200 := by omega
  obtain ⟨s, hs⟩ : ∃ s, y + x = s := ⟨_, rfl⟩
  obtain ⟨p, hp⟩ : ∃ p, y * x = p := ⟨_, rfl⟩
  have hp4 : p ≤ 40000 := by rw [← hp]; exact Nat.mul_le_mul hy hx
  have hpi : (y : Int) * (x : Int) = (p : Int) := by rw [← hp, Int.natCast_mul]
  have hsi : (y : Int) + (x : Int) = (s : Int) := by omega
  have a1 := and1 s (by omega)
  have a2 := and1 y (by omega)
  have a3 := and1 (y / 2 + x / 3) (by omega)
  have a4 := and1 (s + p % 3) (by omega)
  simp only [Int.natCast_add, Int.natCast_ediv, Int.natCast_emod] at a1 a2 a3 a4
  simp only [Int.cast_ofNat_Int] at a1 a2 a3 a4
  go_enter Tryz.func240, Tryz.ntmps240
  go_wp2_with fail
  go_ret
  refine ⟨?_, rfl⟩
  simp only [maskBit, hs, hp]
  first | exact beq_end1 _ _ (by omega) | exact dec_end1 _ _ (by omega)
set_option maxRecDepth 100000 in
set_option maxHeartbeats 1000000 in
theorem unmask3_c (x y : Nat) (hx : x ≤ 200) (hy : y ≤ 200) (w : World) : Calls Tryz.prog 241 #[.int .i64 (y : Int), .int .i64 (x : Int)] w fun e w' => e = .returned (.bool (maskBit 3 x y)) ∧ w = w' := by
  have hxi : (x : Int) ≤ 200 := by omega
  have hyi : (y : Int) ≤ 200 := by omega
  obtain ⟨s, hs⟩ : ∃ s, y + x = s := ⟨_, rfl⟩
  obtain ⟨p, hp⟩ : ∃ p, y * x = p := ⟨_, rfl⟩
  have hp4 : p ≤ 40000 := by rw [← hp]; exact Nat.mul_le_mul hy hx
  have hpi : (y : Int) * (x : Int) = (p : Int) := by rw [← hp, Int.natCast_mul]
  have hsi : (y : Int) + (x : Int) = (s : Int) := by omega
  have a1 := and1 s (by omega)
  have a2 := and1 y (by omega)
  have a3 := and1 (y / 2 + x / 3) (by omega)
  have a4 := and1 (s + p % 3) (by omega)
  simp only [Int.natCast_add, Int.natCast_ediv, Int.natCast_emod] at a1 a2 a3 a4
  simp only [Int.cast_ofNat_Int] at a1 a2 a3 a4
  go_enter Tryz.func241, Tryz.ntmps241
  go_wp2_with fail
  go_ret
  refine ⟨?_, rfl⟩
  simp only [maskBit, hs, hp]
  first | exact beq_end1 _ _ (by omega) | exact dec_end1 _ _ (by omega)
set_option maxRecDepth 100000 in
set_option maxHeartbeats 1000000 in
theorem unmask4_c (x y : Nat) (hx : x ≤ 200) (hy : y ≤ 200) (w : World) : Calls Tryz.prog 242 #[.int .i64 (y : Int), .int .i64 (x : Int)] w fun e w' => e = .returned (.bool (maskBit 4 x y)) ∧ w = w' := by
  have hxi : (x : Int) ≤ 200 := by omega
  have hyi : (y : Int) ≤ 200 := by omega
  obtain ⟨s, hs⟩ : ∃ s, y + x = s := ⟨_, rfl⟩
  obtain ⟨p, hp⟩ : ∃ p, y * x = p := ⟨_, rfl⟩
  have hp4 : p ≤ 40000 := by rw [← hp]; exact Nat.mul_le_mul hy hx
  have hpi : (y : Int) * (x : Int) = (p : Int) := by rw [← hp, Int.natCast_mul]
  have hsi : (y : Int) + (x : Int) = (s : Int) := by omega
  have a1 := and1 s (by omega)
  have a2 := and1 y (by omega)
  have a3 := and1 (y / 2 + x / 3) (by omega)
  have a4 := and1 (s + p % 3) (by omega)
  simp only [Int.natCast_add, Int.natCast_ediv, Int.natCast_emod] at a1 a2 a3 a4
  simp only [Int.cast_ofNat_Int] at a1 a2 a3 a4
  go_enter Tryz.func242, Tryz.ntmps242
  go_wp2_with fail
  go_ret
  refine ⟨?_, rfl⟩
  simp only [maskBit, hs, hp]
  first | exact beq_end1 _ _ (by omega) | exact dec_end1 _ _ (by omega)
set_option maxRecDepth 100000 in
set_option maxHeartbeats 1000000 in
theorem unmask5_c (x y : Nat) (hx : x ≤ 200) (hy : y ≤ 200) (w : World) : Calls Tryz.prog 243 #[.int .i64 (y : Int), .int .i64 (x : Int)] w fun e w' => e = .returned (.bool (maskBit 5 x y)) ∧ w = w' := by
  have hxi : (x : Int) ≤ 200 := by omega
  have hyi : (y : Int) ≤ 200 := by omega
  obtain ⟨s, hs⟩ : ∃ s, y + x = s := ⟨_, rfl⟩
  obtain ⟨p, hp⟩ : ∃ p, y * x = p := ⟨_, rfl⟩
  have hp4 : p ≤ 40000 := by rw [← hp]; exact Nat.mul_le_mul hy hx
  have hpi : (y : Int) * (x : Int) = (p : Int) := by rw [← hp, Int.natCast_mul]
  have hsi : (y : Int) + (x : Int) = (s : Int) := by omega
  have a1 := and1 s (by omega)
  have a2 := and1 y (by omega)
  have a3 := and1 (y / 2 + x / 3) (by omega)
  have a4 := and1 (s + p % 3) (by omega)
  simp only [Int.natCast_add, Int.natCast_ediv, Int.natCast_emod] at a1 a2 a3 a4
  simp only [Int.cast_ofNat_Int] at a1 a2 a3 a4
  go_enter Tryz.func243, Tryz.ntmps243
  go_wp2_with fail
  go_ret
  refine ⟨?_, rfl⟩
  simp only [maskBit, hs, hp]
  first | exact beq_end1 _ _ (by omega) | exact dec_end1 _ _ (by omega)
set_option maxRecDepth 100000 in
set_option maxHeartbeats 1000000 in
theorem unmask6_c (x y : Nat) (hx : x ≤ 200) (hy : y ≤ 200) (w : World) : Calls Tryz.prog 244 #[.int .i64 (y : Int), .int .i64 (x : Int)] w fun e w' => e = .returned (.bool (maskBit 6 x y)) ∧ w = w' := by
  have hxi : (x : Int) ≤ 200 := by omega
  have hyi : (y : Int) ≤ 200 := by omega
  obtain ⟨s, hs⟩ : ∃ s, y + x = s := ⟨_, rfl⟩
  obtain ⟨p, hp⟩ : ∃ p, y * x = p := ⟨_, rfl⟩
  have hp4 : p ≤ 40000 := by rw [← hp]; exact Nat.mul_le_mul hy hx
  have hpi : (y : Int) * (x : Int) = (p : Int) := by rw [← hp, Int.natCast_mul]
  have hsi : (y : Int) + (x : Int) = (s : Int) := by omega
  have a1 := and1 s (by omega)
  have a2 := and1 y (by omega)
  have a3 := and1 (y / 2 + x / 3) (by omega)
  have a4 := and1 (s + p % 3) (by omega)
  simp only [Int.natCast_add, Int.natCast_ediv, Int.natCast_emod] at a1 a2 a3 a4
  simp only [Int.cast_ofNat_Int] at a1 a2 a3 a4
  go_enter Tryz.func244, Tryz.ntmps244
  go_wp2_with fail
  go_ret
  refine ⟨?_, rfl⟩
  simp only [maskBit, hs, hp]
  first | exact beq_end1 _ _ (by omega) | exact dec_end1 _ _ (by omega)
set_option maxRecDepth 100000 in
set_option maxHeartbeats 1000000 in
theorem unmask7_c (x y : Nat) (hx : x ≤ 200) (hy : y ≤ 200) (w : World) : Calls Tryz.prog 245 #[.int .i64 (y : Int), .int .i64 (x : Int)] w fun e w' => e = .returned (.bool (maskBit 7 x y)) ∧ w = w' := by
  have hxi : (x : Int) ≤ 200 := by omega
  have hyi : (y : Int) ≤ 200 := by omega
  obtain ⟨s, hs⟩ : ∃ s, y + x = s := ⟨_, rfl⟩
  obtain ⟨p, hp⟩ : ∃ p, y * x = p := ⟨_, rfl⟩
  have hp4 : p ≤ 40000 := by rw [← hp]; exact Nat.mul_le_mul hy hx
  have hpi : (y : Int) * (x : Int) = (p : Int) := by rw [← hp, Int.natCast_mul]
  have hsi : (y : Int) + (x : Int) = (s : Int) := by omega
  have a1 := and1 s (by omega)
  have a2 := and1 y (by omega)
  have a3 := and1 (y / 2 + x / 3) (by omega)
  have a4 := and1 (s + p % 3) (by omega)
  simp only [Int.natCast_add, Int.natCast_ediv, Int.natCast_emod] at a1 a2 a3 a4
  simp only [Int.cast_ofNat_Int] at a1 a2 a3 a4
  go_enter Tryz.func245, Tryz.ntmps245
  go_wp2_with fail
  go_ret
  refine ⟨?_, rfl⟩
  simp only [maskBit, hs, hp]
  first | exact beq_end1 _ _ (by omega) | exact dec_end1 _ _ (by omega)
/-- f, turned by the mask m in the first i rows and in the first j columns of the next. -/
def unm (f : Nat → Nat → Bool) (m n i j : Nat) : Nat → Nat → Bool := fun y x => if x < n ∧ (y < i ∨ (y = i ∧ x < j)) then f y x != maskBit m x y else f y x
theorem unm_start (f : Nat → Nat → Bool) (m n : Nat) : unm f m n 0 0 = f := by
  funext y x; unfold unm; rw [if_neg (by omega)]
theorem unm_row (f : Nat → Nat → Bool) (m n i : Nat) : unm f m n i n = unm f m n (i + 1) 0 := by
  funext y x; unfold unm
  by_cases h : x < n ∧ (y < i ∨ (y = i ∧ x < n))
  · rw [if_pos h, if_pos (by omega)]
  · rw [if_neg h, if_neg (by omega)]
theorem unm_at (f : Nat → Nat → Bool) (m n i j : Nat) : unm f m n i j i j = f i j := by unfold unm; rw [if_neg (by omega)]
theorem unm_turn {f : Nat → Nat → Bool} {m n i j : Nat} (hj : j < n) (h : maskBit m j i = true) : updB (unm f m n i j) i j (!(unm f m n i j i j)) = unm f m n i (j + 1) := by
  rw [unm_at]
  funext y x
  unfold updB unm
  by_cases e : y = i ∧ x = j
  · obtain ⟨rfl, rfl⟩ := e
    rw [if_pos ⟨rfl, rfl⟩, if_pos (by omega), h]
    cases f y x <;> rfl
  · rw [if_neg e]
    by_cases h2 : x < n ∧ (y < i ∨ (y = i ∧ x < j))
    · rw [if_pos h2, if_pos (by omega)]
    · rw [if_neg h2, if_neg (by omega)]
theorem unm_keep {f : Nat → Nat → Bool} {m n i j : Nat} (h : maskBit m j i = false) : unm f m n i j = unm f m n i (j + 1) := by
  funext y x
  unfold unm
  by_cases e : y = i ∧ x = j
  · obtain ⟨rfl, rfl⟩ := e
    rw [if_neg (by omega), h]
    split <;> cases f y x <;> rfl
  · by_cases h2 : x < n ∧ (y < i ∨ (y = i ∧ x < j))
    · rw [if_pos h2, if_pos (by omega)]
    · rw [if_neg h2, if_neg (by omega)]
end

section
set_option maxRecDepth 100000 in
set_option maxHeartbeats 4000000 in
theorem unmaskAll0_c {w : World} {G C n rs : Nat} {ws : List Nat} {f : Nat → Nat → Bool} (hG : GM w G C n n rs ws f) (hn : n ≤ 200)   :
    Calls Tryz.prog 202 #[.agg #[.func (.func 238) #[] #[]], ptv G, .int .i64 (n : Int)] w fun e w' => e = .returned (.tuple #[]) ∧ (∃ ws', GM w' G C n n rs ws' (unm f 0 n n 0)) ∧ Kept [C] w w' := by
  have ni : (n : Int) ≤ 200 := by omega
  obtain ⟨S0, hS0⟩ : ∃ s, w.heap.size = s := ⟨_, rfl⟩
  have hCl : C < S0 := by rw [← hS0]; exact hG.ar.lt
  have hk0 : Kept [] w (w.alloc (.cells #[.func (.func 238) #[] #[]] 324)) := (Kept.refl _ _).alloc _
  have HG := Lib.hid (hG.kept hk0 (by simp) (by simp))
  have hb0 := Blk.new w [.func (.func 238) #[] #[]] 324
  rw [hS0] at hb0
  have HB := Lib.hid hb0
  have HK0 := Lib.hid hk0
  clear hb0 hk0 hG
  go_enter Tryz.func202, Tryz.ntmps202
  go_wp2_with fail
  clear hS0
  generalize w.alloc (.cells #[.func (.func 238) #[] #[]] 324) = w1 at HG HB HK0 ⊢
  go_loopw [6] (fun s6 wr => ∃ (i : Nat) (ws : List Nat), i ≤ n ∧ s6 = .int .i64 (i : Int) ∧ GM wr G C n n rs ws (unm f 0 n i 0) ∧ Kept [C] w1 wr) (fun s _ => (n - intOf s).toNat)
  case atStart => exact ⟨0, ws, by omega, rfl, by rw [unm_start]; exact HG.out, Kept.refl _ _⟩
  case round =>
    obtain ⟨i, ws1, hi, rfl, hg, hk⟩ := hrel
    have HG1 := Lib.hid hg
    have HK1 := Lib.hid hk
    clear hg hk
    by_cases hlt : i < n
    · have ii : (i : Int) < n := by omega
      obtain ⟨wo, rfl⟩ : ∃ wo : World, wo = wr := ⟨_, rfl⟩
      go_wp2_with fail
      go_loopw [7] (fun s7 wr => ∃ (j : Nat) (ws : List Nat), j ≤ n ∧ s7 = .int .i64 (j : Int) ∧ GM wr G C n n rs ws (unm f 0 n i j) ∧ Kept [C] w1 wr) (fun s _ => (n - intOf s).toNat)
      case atStart => exact ⟨0, ws1, by omega, rfl, HG1.out, HK1.out⟩
      case round =>
        clear HG1 HK1
        obtain ⟨j, ws2, hj, rfl, hg, hk⟩ := hrel
        have HG2 := Lib.hid hg
        have HK2 := Lib.hid hk
        clear hg hk
        by_cases hltj : j < n
        · have ij : (j : Int) < n := by omega
          have hc := (HK2.out.blk HB.out (by simp; omega)).at (i := 0) rfl
          go_wp2_with fail
          refine (unmask0_c j i (by omega) (by omega) wr).mono ?_
          rintro e wx ⟨rfl, rfl⟩
          cases hm : maskBit 0 j i with
          | true =>
            have HST := Lib.hid (gmFlip_c HG2.out hlt (x := j) (by have := HG2.out.wide; omega))
            have HM := Lib.hid hm
            clear hm hc
            go_wp2_with fail
            refine HST.out.mono ?_
            rintro e w7 ⟨rfl, hg7, hk7⟩
            rw [unm_turn hltj HM.out] at hg7
            have HG7 := Lib.hid hg7
            have HK7 := Lib.hid (HK2.out.then hk7)
            clear hg7 hk7
            go_wp2_with fail
            go_roundw
            case rel => exact ⟨j + 1, _, by omega, by go_num, HG7.out, HK7.out⟩
            case measure => simp [intOf]; omega
          | false =>
            have HG7 : Hid (GM wr G C n n rs ws2 (unm f 0 n i (j + 1))) := Lib.hid (by rw [← unm_keep hm]; exact HG2.out)
            clear hm hc
            go_wp2_with fail
            go_roundw
            case rel => exact ⟨j + 1, ws2, by omega, by go_num, HG7.out, HK2.out⟩
            case measure => simp [intOf]; omega
        · obtain rfl : j = n := by omega
          have HG7 : Hid (GM wr G C j j rs ws2 (unm f 0 j (i + 1) 0)) := Lib.hid (by rw [← unm_row]; exact HG2.out)
          go_wp2_with fail
          go_roundw
          case rel => exact ⟨i + 1, ws2, by omega, by go_num, HG7.out, HK2.out⟩
          case measure => simp [intOf]; omega
    · obtain rfl : i = n := by omega
      go_wp2_with fail
      go_end0
      exact ⟨rfl, ⟨ws1, HG1.out⟩, (HK0.out.mono (by simp)).then HK1.out⟩
set_option maxRecDepth 100000 in
set_option maxHeartbeats 4000000 in
theorem unmaskAll1_c {w : World} {G C n rs : Nat} {ws : List Nat} {f : Nat → Nat → Bool} (hG : GM w G C n n rs ws f) (hn : n ≤ 200)   :
    Calls Tryz.prog 202 #[.agg #[.func (.func 239) #[] #[]], ptv G, .int .i64 (n : Int)] w fun e w' => e = .returned (.tuple #[]) ∧ (∃ ws', GM w' G C n n rs ws' (unm f 1 n n 0)) ∧ Kept [C] w w' := by
  have ni : (n : Int) ≤ 200 := by omega
  obtain ⟨S0, hS0⟩ : ∃ s, w.heap.size = s := ⟨_, rfl⟩
  have hCl : C < S0 := by rw [← hS0]; exact hG.ar.lt
  have hk0 : Kept [] w (w.alloc (.cells #[.func (.func 239) #[] #[]] 324)) := (Kept.refl _ _).alloc _
  have HG := Lib.hid (hG.kept hk0 (by simp) (by simp))
  have hb0 := Blk.new w [.func (.func 239) #[] #[]] 324
  rw [hS0] at hb0
  have HB := Lib.hid hb0
  have HK0 := Lib.hid hk0
  clear hb0 hk0 hG
  go_enter Tryz.func202, Tryz.ntmps202
  go_wp2_with fail
  clear hS0
  generalize w.alloc (.cells #[.func (.func 239) #[] #[]] 324) = w1 at HG HB HK0 ⊢
  go_loopw [6] (fun s6 wr => ∃ (i : Nat) (ws : List Nat), i ≤ n ∧ s6 = .int .i64 (i : Int) ∧ GM wr G C n n rs ws (unm f 1 n i 0) ∧ Kept [C] w1 wr) (fun s _ => (n - intOf s).toNat)
  case atStart => exact ⟨0, ws, by omega, rfl, by rw [unm_start]; exact HG.out, Kept.refl _ _⟩
  case round =>
    obtain ⟨i, ws1, hi, rfl, hg, hk⟩ := hrel
    have HG1 := Lib.hid hg
    have HK1 := Lib.hid hk
    clear hg hk
    by_cases hlt : i < n
    · have ii : (i : Int) < n := by omega
      obtain ⟨wo, rfl⟩ : ∃ wo : World, wo = wr := ⟨_, rfl⟩
      go_wp2_with fail
      go_loopw [7] (fun s7 wr => ∃ (j : Nat) (ws : List Nat), j ≤ n ∧ s7 = .int .i64 (j : Int) ∧ GM wr G C n n rs ws (unm f 1 n i j) ∧ Kept [C] w1 wr) (fun s _ => (n - intOf s).toNat)
      case atStart => exact ⟨0, ws1, by omega, rfl, HG1.out, HK1.out⟩
      case round =>
        clear HG1 HK1
        obtain ⟨j, ws2, hj, rfl, hg, hk⟩ := hrel
        have HG2 := Lib.hid hg
        have HK2 := Lib.hid hk
        clear hg hk
        by_cases hltj : j < n
        · have ij : (j : Int) < n := by omega
          have hc := (HK2.out.blk HB.out (by simp; omega)).at (i := 0) rfl
          go_wp2_with fail
          refine (unmask1_c j i (by omega) (by omega) wr).mono ?_
          rintro e wx ⟨rfl, rfl⟩
          cases hm : maskBit 1 j i with
          | true =>
            have HST := Lib.hid (gmFlip_c HG2.out hlt (x := j) (by have := HG2.out.wide; omega))
            have HM := Lib.hid hm
            clear hm hc
            go_wp2_with fail
            refine HST.out.mono ?_
            rintro e w7 ⟨rfl, hg7, hk7⟩
            rw [unm_turn hltj HM.out] at hg7
            have HG7 := Lib.hid hg7
            have HK7 := Lib.hid (HK2.out.then hk7)
            clear hg7 hk7
            go_wp2_with fail
            go_roundw
            case rel => exact ⟨j + 1, _, by omega, by go_num, HG7.out, HK7.out⟩
            case measure => simp [intOf]; omega
          | false =>
            have HG7 : Hid (GM wr G C n n rs ws2 (unm f 1 n i (j + 1))) := Lib.hid (by rw [← unm_keep hm]; exact HG2.out)
            clear hm hc
            go_wp2_with fail
            go_roundw
            case rel => exact ⟨j + 1, ws2, by omega, by go_num, HG7.out, HK2.out⟩
            case measure => simp [intOf]; omega
        · obtain rfl : j = n := by omega
          have HG7 : Hid (GM wr G C j j rs ws2 (unm f 1 j (i + 1) 0)) := Lib.hid (by rw [← unm_row]; exact HG2.out)
          go_wp2_with fail
          go_roundw
          case rel => exact ⟨i + 1, ws2, by omega, by go_num, HG7.out, HK2.out⟩
          case measure => simp [intOf]; omega
    · obtain rfl : i = n := by omega
      go_wp2_with fail
      go_end0
      exact ⟨rfl, ⟨ws1, HG1.out⟩, (HK0.out.mono (by simp)).then HK1.out⟩
set_option maxRecDepth 100000 in
set_option maxHeartbeats 4000000 in
theorem unmaskAll2_c {w : World} {G C n rs : Nat} {ws : List Nat} {f : Nat → Nat → Bool} (hG : GM w G C n n rs ws f) (hn : n ≤ 200)   :
    Calls Tryz.prog 202 #[.agg #[.func (.func 240) #[] #[]], ptv G, .int .i64 (n : Int)] w fun e w' => e = .returned (.tuple #[]) ∧ (∃ ws', GM w' G C n n rs ws' (unm f 2 n n 0)) ∧ Kept [C] w w' := by
  have ni : (n : Int) ≤ 200 := by omega
  obtain ⟨S0, hS0⟩ : ∃ s, w.heap.size = s := ⟨_, rfl⟩
  have hCl : C < S0 := by rw [← hS0]; exact hG.ar.lt
  have hk0 : Kept [] w (w.alloc (.cells #[.func (.func 240) #[] #[]] 324)) := (Kept.refl _ _).alloc _
  have HG := Lib.hid (hG.kept hk0 (by simp) (by simp))
  have hb0 := Blk.new w [.func (.func 240) #[] #[]] 324
  rw [hS0] at hb0
  have HB := Lib.hid hb0
  have HK0 := Lib.hid hk0
  clear hb0 hk0 hG
  go_enter Tryz.func202, Tryz.ntmps202
  go_wp2_with fail
  clear hS0
  generalize w.alloc (.cells #[.func (.func 240) #[] #[]] 324) = w1 at HG HB HK0 ⊢
  go_loopw [6] (fun s6 wr => ∃ (i : Nat) (ws : List Nat), i ≤ n ∧ s6 = .int .i64 (i : Int) ∧ GM wr G C n n rs ws (unm f 2 n i 0) ∧ Kept [C] w1 wr) (fun s _ => (n - intOf s).toNat)
  case atStart => exact ⟨0, ws, by omega, rfl, by rw [unm_start]; exact HG.out, Kept.refl _ _⟩
  case round =>
    obtain ⟨i, ws1, hi, rfl, hg, hk⟩ := hrel
    have HG1 := Lib.hid hg
    have HK1 := Lib.hid hk
    clear hg hk
    by_cases hlt : i < n
    · have ii : (i : Int) < n := by omega
      obtain ⟨wo, rfl⟩ : ∃ wo : World, wo = wr := ⟨_, rfl⟩
      go_wp2_with fail
      go_loopw [7] (fun s7 wr => ∃ (j : Nat) (ws : List Nat), j ≤ n ∧ s7 = .int .i64 (j : Int) ∧ GM wr G C n n rs ws (unm f 2 n i j) ∧ Kept [C] w1 wr) (fun s _ => (n - intOf s).toNat)
      case atStart => exact ⟨0, ws1, by omega, rfl, HG1.out, HK1.out⟩
      case round =>
        clear HG1 HK1
        obtain ⟨j, ws2, hj, rfl, hg, hk⟩ := hrel
        have HG2 := Lib.hid hg
        have HK2 := Lib.hid hk
        clear hg hk
        by_cases hltj : j < n
        · have ij : (j : Int) < n := by omega
          have hc := (HK2.out.blk HB.out (by simp; omega)).at (i := 0) rfl
          go_wp2_with fail
          refine (unmask2_c j i (by omega) (by omega) wr).mono ?_
          rintro e wx ⟨rfl, rfl⟩
          cases hm : maskBit 2 j i with
          | true =>
            have HST := Lib.hid (gmFlip_c HG2.out hlt (x := j) (by have := HG2.out.wide; omega))
            have HM := Lib.hid hm
            clear hm hc
            go_wp2_with fail
            refine HST.out.mono ?_
            rintro e w7 ⟨rfl, hg7, hk7⟩
            rw [unm_turn hltj HM.out] at hg7
            have HG7 := Lib.hid hg7
            have HK7 := Lib.hid (HK2.out.then hk7)
            clear hg7 hk7
            go_wp2_with fail
            go_roundw
            case rel => exact ⟨j + 1, _, by omega, by go_num, HG7.out, HK7.out⟩
            case measure => simp [intOf]; omega
          | false =>
            have HG7 : Hid (GM wr G C n n rs ws2 (unm f 2 n i (j + 1))) := Lib.hid (by rw [← unm_keep hm]; exact HG2.out)
            clear hm hc
            go_wp2_with fail
            go_roundw
            case rel => exact ⟨j + 1, ws2, by omega, by go_num, HG7.out, HK2.out⟩
            case measure => simp [intOf]; omega
        · obtain rfl : j = n := by omega
          have HG7 : Hid (GM wr G C j j rs ws2 (unm f 2 j (i + 1) 0)) := Lib.hid (by rw [← unm_row]; exact HG2.out)
          go_wp2_with fail
          go_roundw
          case rel => exact ⟨i + 1, ws2, by omega, by go_num, HG7.out, HK2.out⟩
          case measure => simp [intOf]; omega
    · obtain rfl : i = n := by omega
      go_wp2_with fail
      go_end0
      exact ⟨rfl, ⟨ws1, HG1.out⟩, (HK0.out.mono (by simp)).then HK1.out⟩
set_option maxRecDepth 100000 in
set_option maxHeartbeats 4000000 in
theorem unmaskAll3_c {w : World} {G C n rs : Nat} {ws : List Nat} {f : Nat → Nat → Bool} (hG : GM w G C n n rs ws f) (hn : n ≤ 200)   :
    Calls Tryz.prog 202 #[.agg #[.func (.func 241) #[] #[]], ptv G, .int .i64 (n : Int)] w fun e w' => e = .returned (.tuple #[]) ∧ (∃ ws', GM w' G C n n rs ws' (unm f 3 n n 0)) ∧ Kept [C] w w' := by
  have ni : (n : Int) ≤ 200 := by omega
  obtain ⟨S0, hS0⟩ : ∃ s, w.heap.size = s := ⟨_, rfl⟩
  have hCl : C < S0 := by rw [← hS0]; exact hG.ar.lt
  have hk0 : Kept [] w (w.alloc (.cells #[.func (.func 241) #[] #[]] 324)) := (Kept.refl _ _).alloc _
  have HG := Lib.hid (hG.kept hk0 (by simp) (by simp))
  have hb0 := Blk.new w [.func (.func 241) #[] #[]] 324
  rw [hS0] at hb0
  have HB := Lib.hid hb0
  have HK0 := Lib.hid hk0
  clear hb0 hk0 hG
  go_enter Tryz.func202, Tryz.ntmps202
  go_wp2_with fail
  clear hS0
  generalize w.alloc (.cells #[.func (.func 241) #[] #[]] 324) = w1 at HG HB HK0 ⊢
  go_loopw [6] (fun s6 wr => ∃ (i : Nat) (ws : List Nat), i ≤ n ∧ s6 = .int .i64 (i : Int) ∧ GM wr G C n n rs ws (unm f 3 n i 0) ∧ Kept [C] w1 wr) (fun s _ => (n - intOf s).toNat)
  case atStart => exact ⟨0, ws, by omega, rfl, by rw [unm_start]; exact HG.out, Kept.refl _ _⟩
  case round =>
    obtain ⟨i, ws1, hi, rfl, hg, hk⟩ := hrel
    have HG1 := Lib.hid hg
    have HK1 := Lib.hid hk
    clear hg hk
    by_cases hlt : i < n
    · have ii : (i : Int) < n := by omega
      obtain ⟨wo, rfl⟩ : ∃ wo : World, wo = wr := ⟨_, rfl⟩
      go_wp2_with fail
      go_loopw [7] (fun s7 wr => ∃ (j : Nat) (ws : List Nat), j ≤ n ∧ s7 = .int .i64 (j : Int) ∧ GM wr G C n n rs ws (unm f 3 n i j) ∧ Kept [C] w1 wr) (fun s _ => (n - intOf s).toNat)
      case atStart => exact ⟨0, ws1, by omega, rfl, HG1.out, HK1.out⟩
      case round =>
        clear HG1 HK1
        obtain ⟨j, ws2, hj, rfl, hg, hk⟩ := hrel
        have HG2 := Lib.hid hg
        have HK2 := Lib.hid hk
        clear hg hk
        by_cases hltj : j < n
        · have ij : (j : Int) < n := by omega
          have hc := (HK2.out.blk HB.out (by simp; omega)).at (i := 0) rfl
          go_wp2_with fail
          refine (unmask3_c j i (by omega) (by omega) wr).mono ?_
          rintro e wx ⟨rfl, rfl⟩
          cases hm : maskBit 3 j i with
          | true =>
            have HST := Lib.hid (gmFlip_c HG2.out hlt (x := j) (by have := HG2.out.wide; omega))
            have HM := Lib.hid hm
            clear hm hc
            go_wp2_with fail
            refine HST.out.mono ?_
            rintro e w7 ⟨rfl, hg7, hk7⟩
            rw [unm_turn hltj HM.out] at hg7
            have HG7 := Lib.hid hg7
            have HK7 := Lib.hid (HK2.out.then hk7)
            clear hg7 hk7
            go_wp2_with fail
            go_roundw
            case rel => exact ⟨j + 1, _, by omega, by go_num, HG7.out, HK7.out⟩
            case measure => simp [intOf]; omega
          | false =>
            have HG7 : Hid (GM wr G C n n rs ws2 (unm f 3 n i (j + 1))) := Lib.hid (by rw [← unm_keep hm]; exact HG2.out)
            clear hm hc
            go_wp2_with fail
            go_roundw
            case rel => exact ⟨j + 1, ws2, by omega, by go_num, HG7.out, HK2.out⟩
            case measure => simp [intOf]; omega
        · obtain rfl : j = n := by omega
          have HG7 : Hid (GM wr G C j j rs ws2 (unm f 3 j (i + 1) 0)) := Lib.hid (by rw [← unm_row]; exact HG2.out)
          go_wp2_with fail
          go_roundw
          case rel => exact ⟨i + 1, ws2, by omega, by go_num, HG7.out, HK2.out⟩
          case measure => simp [intOf]; omega
    · obtain rfl : i = n := by omega
      go_wp2_with fail
      go_end0
      exact ⟨rfl, ⟨ws1, HG1.out⟩, (HK0.out.mono (by simp)).then HK1.out⟩
set_option maxRecDepth 100000 in
set_option maxHeartbeats 4000000 in
theorem unmaskAll4_c {w : World} {G C n rs : Nat} {ws : List Nat} {f : Nat → Nat → Bool} (hG : GM w G C n n rs ws f) (hn : n ≤ 200)   :
    Calls Tryz.prog 202 #[.agg #[.func (.func 242) #[] #[]], ptv G, .int .i64 (n : Int)] w fun e w' => e = .returned (.tuple #[]) ∧ (∃ ws', GM w' G C n n rs ws' (unm f 4 n n 0)) ∧ Kept [C] w w' := by
  have ni : (n : Int) ≤ 200 := by omega
  obtain ⟨S0, hS0⟩ : ∃ s, w.heap.size = s := ⟨_, rfl⟩
  have hCl : C < S0 := by rw [← hS0]; exact hG.ar.lt
  have hk0 : Kept [] w (w.alloc (.cells #[.func (.func 242) #[] #[]] 324)) := (Kept.refl _ _).alloc _
  have HG := Lib.hid (hG.kept hk0 (by simp) (by simp))
  have hb0 := Blk.new w [.func (.func 242) #[] #[]] 324
  rw [hS0] at hb0
  have HB := Lib.hid hb0
  have HK0 := Lib.hid hk0
  clear hb0 hk0 hG
  go_enter Tryz.func202, Tryz.ntmps202
  go_wp2_with fail
  clear hS0
  generalize w.alloc (.cells #[.func (.func 242) #[] #[]] 324) = w1 at HG HB HK0 ⊢
  go_loopw [6] (fun s6 wr => ∃ (i : Nat) (ws : List Nat), i ≤ n ∧ s6 = .int .i64 (i : Int) ∧ GM wr G C n n rs ws (unm f 4 n i 0) ∧ Kept [C] w1 wr) (fun s _ => (n - intOf s).toNat)
  case atStart => exact ⟨0, ws, by omega, rfl, by rw [unm_start]; exact HG.out, Kept.refl _ _⟩
  case round =>
    obtain ⟨i, ws1, hi, rfl, hg, hk⟩ := hrel
    have HG1 := Lib.hid hg
    have HK1 := Lib.hid hk
    clear hg hk
    by_cases hlt : i < n
    · have ii : (i : Int) < n := by omega
      obtain ⟨wo, rfl⟩ : ∃ wo : World, wo = wr := ⟨_, rfl⟩
      go_wp2_with fail
      go_loopw [7] (fun s7 wr => ∃ (j : Nat) (ws : List Nat), j ≤ n ∧ s7 = .int .i64 (j : Int) ∧ GM wr G C n n rs ws (unm f 4 n i j) ∧ Kept [C] w1 wr) (fun s _ => (n - intOf s).toNat)
      case atStart => exact ⟨0, ws1, by omega, rfl, HG1.out, HK1.out⟩
      case round =>
        clear HG1 HK1
        obtain ⟨j, ws2, hj, rfl, hg, hk⟩ := hrel
        have HG2 := Lib.hid hg
        have HK2 := Lib.hid hk
        clear hg hk
        by_cases hltj : j < n
        · have ij : (j : Int) < n := by omega
          have hc := (HK2.out.blk HB.out (by simp; omega)).at (i := 0) rfl
          go_wp2_with fail
          refine (unmask4_c j i (by omega) (by omega) wr).mono ?_
          rintro e wx ⟨rfl, rfl⟩
          cases hm : maskBit 4 j i with
          | true =>
            have HST := Lib.hid (gmFlip_c HG2.out hlt (x := j) (by have := HG2.out.wide; omega))
            have HM := Lib.hid hm
            clear hm hc
            go_wp2_with fail
            refine HST.out.mono ?_
            rintro e w7 ⟨rfl, hg7, hk7⟩
            rw [unm_turn hltj HM.out] at hg7
            have HG7 := Lib.hid hg7
            have HK7 := Lib.hid (HK2.out.then hk7)
            clear hg7 hk7
            go_wp2_with fail
            go_roundw
            case rel => exact ⟨j + 1, _, by omega, by go_num, HG7.out, HK7.out⟩
            case measure => simp [intOf]; omega
          | false =>
            have HG7 : Hid (GM wr G C n n rs ws2 (unm f 4 n i (j + 1))) := Lib.hid (by rw [← unm_keep hm]; exact HG2.out)
            clear hm hc
            go_wp2_with fail
            go_roundw
            case rel => exact ⟨j + 1, ws2, by omega, by go_num, HG7.out, HK2.out⟩
            case measure => simp [intOf]; omega
        · obtain rfl : j = n := by omega
          have HG7 : Hid (GM wr G C j j rs ws2 (unm f 4 j (i + 1) 0)) := Lib.hid (by rw [← unm_row]; exact HG2.out)
          go_wp2_with fail
          go_roundw
          case rel => exact ⟨i + 1, ws2, by omega, by go_num, HG7.out, HK2.out⟩
          case measure => simp [intOf]; omega
    · obtain rfl : i = n := by omega
      go_wp2_with fail
      go_end0
      exact ⟨rfl, ⟨ws1, HG1.out⟩, (HK0.out.mono (by simp)).then HK1.out⟩
set_option maxRecDepth 100000 in
set_option maxHeartbeats 4000000 in
theorem unmaskAll5_c {w : World} {G C n rs : Nat} {ws : List Nat} {f : Nat → Nat → Bool} (hG : GM w G C n n rs ws f) (hn : n ≤ 200)   :
    Calls Tryz.prog 202 #[.agg #[.func (.func 243) #[] #[]], ptv G, .int .i64 (n : Int)] w fun e w' => e = .returned (.tuple #[]) ∧ (∃ ws', GM w' G C n n rs ws' (unm f 5 n n 0)) ∧ Kept [C] w w' := by
  have ni : (n : Int) ≤ 200 := by omega
  obtain ⟨S0, hS0⟩ : ∃ s, w.heap.size = s := ⟨_, rfl⟩
  have hCl : C < S0 := by rw [← hS0]; exact hG.ar.lt
  have hk0 : Kept [] w (w.alloc (.cells #[.func (.func 243) #[] #[]] 324)) := (Kept.refl _ _).alloc _
  have HG := Lib.hid (hG.kept hk0 (by simp) (by simp))
  have hb0 := Blk.new w [.func (.func 243) #[] #[]] 324
  rw [hS0] at hb0
  have HB := Lib.hid hb0
  have HK0 := Lib.hid hk0
  clear hb0 hk0 hG
  go_enter Tryz.func202, Tryz.ntmps202
  go_wp2_with fail
  clear hS0
  generalize w.alloc (.cells #[.func (.func 243) #[] #[]] 324) = w1 at HG HB HK0 ⊢
  go_loopw [6] (fun s6 wr => ∃ (i : Nat) (ws : List Nat), i ≤ n ∧ s6 = .int .i64 (i : Int) ∧ GM wr G C n n rs ws (unm f 5 n i 0) ∧ Kept [C] w1 wr) (fun s _ => (n - intOf s).toNat)
  case atStart => exact ⟨0, ws, by omega, rfl, by rw [unm_start]; exact HG.out, Kept.refl _ _⟩
  case round =>
    obtain ⟨i, ws1, hi, rfl, hg, hk⟩ := hrel
    have HG1 := Lib.hid hg
    have HK1 := Lib.hid hk
    clear hg hk
    by_cases hlt : i < n
    · have ii : (i : Int) < n := by omega
      obtain ⟨wo, rfl⟩ : ∃ wo : World, wo = wr := ⟨_, rfl⟩
      go_wp2_with fail
      go_loopw [7] (fun s7 wr => ∃ (j : Nat) (ws : List Nat), j ≤ n ∧ s7 = .int .i64 (j : Int) ∧ GM wr G C n n rs ws (unm f 5 n i j) ∧ Kept [C] w1 wr) (fun s _ => (n - intOf s).toNat)
      case atStart => exact ⟨0, ws1, by omega, rfl, HG1.out, HK1.out⟩
      case round =>
        clear HG1 HK1
        obtain ⟨j, ws2, hj, rfl, hg, hk⟩ := hrel
        have HG2 := Lib.hid hg
        have HK2 := Lib.hid hk
        clear hg hk
        by_cases hltj : j < n
        · have ij : (j : Int) < n := by omega
          have hc := (HK2.out.blk HB.out (by simp; omega)).at (i := 0) rfl
          go_wp2_with fail
          refine (unmask5_c j i (by omega) (by omega) wr).mono ?_
          rintro e wx ⟨rfl, rfl⟩
          cases hm : maskBit 5 j i with
          | true =>
            have HST := Lib.hid (gmFlip_c HG2.out hlt (x := j) (by have := HG2.out.wide; omega))
            have HM := Lib.hid hm
            clear hm hc
            go_wp2_with fail
            refine HST.out.mono ?_
            rintro e w7 ⟨rfl, hg7, hk7⟩
            rw [unm_turn hltj HM.out] at hg7
            have HG7 := Lib.hid hg7
            have HK7 := Lib.hid (HK2.out.then hk7)
            clear hg7 hk7
            go_wp2_with fail
            go_roundw
            case rel => exact ⟨j + 1, _, by omega, by go_num, HG7.out, HK7.out⟩
            case measure => simp [intOf]; omega
          | false =>
            have HG7 : Hid (GM wr G C n n rs ws2 (unm f 5 n i (j + 1))) := Lib.hid (by rw [← unm_keep hm]; exact HG2.out)
            clear hm hc
            go_wp2_with fail
            go_roundw
            case rel => exact ⟨j + 1, ws2, by omega, by go_num, HG7.out, HK2.out⟩
            case measure => simp [intOf]; omega
        · obtain rfl : j = n := by omega
          have HG7 : Hid (GM wr G C j j rs ws2 (unm f 5 j (i + 1) 0)) := Lib.hid (by rw [← unm_row]; exact HG2.out)
          go_wp2_with fail
          go_roundw
          case rel => exact ⟨i + 1, ws2, by omega, by go_num, HG7.out, HK2.out⟩
          case measure => simp [intOf]; omega
    · obtain rfl : i = n := by omega
      go_wp2_with fail
      go_end0
      exact ⟨rfl, ⟨ws1, HG1.out⟩, (HK0.out.mono (by simp)).then HK1.out⟩
set_option maxRecDepth 100000 in
set_option maxHeartbeats 4000000 in
theorem unmaskAll6_c {w : World} {G C n rs : Nat} {ws : List Nat} {f : Nat → Nat → Bool} (hG : GM w G C n n rs ws f) (hn : n ≤ 200)   :
    Calls Tryz.prog 202 #[.agg #[.func (.func 244) #[] #[]], ptv G, .int .i64 (n : Int)] w fun e w' => e = .returned (.tuple #[]) ∧ (∃ ws', GM w' G C n n rs ws' (unm f 6 n n 0)) ∧ Kept [C] w w' := by
  have ni : (n : Int) ≤ 200 := by omega
  obtain ⟨S0, hS0⟩ : ∃ s, w.heap.size = s := ⟨_, rfl⟩
  have hCl : C < S0 := by rw [← hS0]; exact hG.ar.lt
  have hk0 : Kept [] w (w.alloc (.cells #[.func (.func 244) #[] #[]] 324)) := (Kept.refl _ _).alloc _
  have HG := Lib.hid (hG.kept hk0 (by simp) (by simp))
  have hb0 := Blk.new w [.func (.func 244) #[] #[]] 324
  rw [hS0] at hb0
  have HB := Lib.hid hb0
  have HK0 := Lib.hid hk0
  clear hb0 hk0 hG
  go_enter Tryz.func202, Tryz.ntmps202
  go_wp2_with fail
  clear hS0
  generalize w.alloc (.cells #[.func (.func 244) #[] #[]] 324) = w1 at HG HB HK0 ⊢
  go_loopw [6] (fun s6 wr => ∃ (i : Nat) (ws : List Nat), i ≤ n ∧ s6 = .int .i64 (i : Int) ∧ GM wr G C n n rs ws (unm f 6 n i 0) ∧ Kept [C] w1 wr) (fun s _ => (n - intOf s).toNat)
  case atStart => exact ⟨0, ws, by omega, rfl, by rw [unm_start]; exact HG.out, Kept.refl _ _⟩
  case round =>
    obtain ⟨i, ws1, hi, rfl, hg, hk⟩ := hrel
    have HG1 := Lib.hid hg
    have HK1 := Lib.hid hk
    clear hg hk
    by_cases hlt : i < n
    · have ii : (i : Int) < n := by omega
      obtain ⟨wo, rfl⟩ : ∃ wo : World, wo = wr := ⟨_, rfl⟩
      go_wp2_with fail
      go_loopw [7] (fun s7 wr => ∃ (j : Nat) (ws : List Nat), j ≤ n ∧ s7 = .int .i64 (j : Int) ∧ GM wr G C n n rs ws (unm f 6 n i j) ∧ Kept [C] w1 wr) (fun s _ => (n - intOf s).toNat)
      case atStart => exact ⟨0, ws1, by omega, rfl, HG1.out, HK1.out⟩
      case round =>
        clear HG1 HK1
        obtain ⟨j, ws2, hj, rfl, hg, hk⟩ := hrel
        have HG2 := Lib.hid hg
        have HK2 := Lib.hid hk
        clear hg hk
        by_cases hltj : j < n
        · have ij : (j : Int) < n := by omega
          have hc := (HK2.out.blk HB.out (by simp; omega)).at (i := 0) rfl
          go_wp2_with fail
          refine (unmask6_c j i (by omega) (by omega) wr).mono ?_
          rintro e wx ⟨rfl, rfl⟩
          cases hm : maskBit 6 j i with
          | true =>
            have HST := Lib.hid (gmFlip_c HG2.out hlt (x := j) (by have := HG2.out.wide; omega))
            have HM := Lib.hid hm
            clear hm hc
            go_wp2_with fail
            refine HST.out.mono ?_
            rintro e w7 ⟨rfl, hg7, hk7⟩
            rw [unm_turn hltj HM.out] at hg7
            have HG7 := Lib.hid hg7
            have HK7 := Lib.hid (HK2.out.then hk7)
            clear hg7 hk7
            go_wp2_with fail
            go_roundw
            case rel => exact ⟨j + 1, _, by omega, by go_num, HG7.out, HK7.out⟩
            case measure => simp [intOf]; omega
          | false =>
            have HG7 : Hid (GM wr G C n n rs ws2 (unm f 6 n i (j + 1))) := Lib.hid (by rw [← unm_keep hm]; exact HG2.out)
            clear hm hc
            go_wp2_with fail
            go_roundw
            case rel => exact ⟨j + 1, ws2, by omega, by go_num, HG7.out, HK2.out⟩
            case measure => simp [intOf]; omega
        · obtain rfl : j = n := by omega
          have HG7 : Hid (GM wr G C j j rs ws2 (unm f 6 j (i + 1) 0)) := Lib.hid (by rw [← unm_row]; exact HG2.out)
          go_wp2_with fail
          go_roundw
          case rel => exact ⟨i + 1, ws2, by omega, by go_num, HG7.out, HK2.out⟩
          case measure => simp [intOf]; omega
    · obtain rfl : i = n := by omega
      go_wp2_with fail
      go_end0
      exact ⟨rfl, ⟨ws1, HG1.out⟩, (HK0.out.mono (by simp)).then HK1.out⟩
set_option maxRecDepth 100000 in
set_option maxHeartbeats 4000000 in
theorem unmaskAll7_c {w : World} {G C n rs : Nat} {ws : List Nat} {f : Nat → Nat → Bool} (hG : GM w G C n n rs ws f) (hn : n ≤ 200)   :
    Calls Tryz.prog 202 #[.agg #[.func (.func 245) #[] #[]], ptv G, .int .i64 (n : Int)] w fun e w' => e = .returned (.tuple #[]) ∧ (∃ ws', GM w' G C n n rs ws' (unm f 7 n n 0)) ∧ Kept [C] w w' := by
  have ni : (n : Int) ≤ 200 := by omega
  obtain ⟨S0, hS0⟩ : ∃ s, w.heap.size = s := ⟨_, rfl⟩
  have hCl : C < S0 := by rw [← hS0]; exact hG.ar.lt
  have hk0 : Kept [] w (w.alloc (.cells #[.func (.func 245) #[] #[]] 324)) := (Kept.refl _ _).alloc _
  have HG := Lib.hid (hG.kept hk0 (by simp) (by simp))
  have hb0 := Blk.new w [.func (.func 245) #[] #[]] 324
  rw [hS0] at hb0
  have HB := Lib.hid hb0
  have HK0 := Lib.hid hk0
  clear hb0 hk0 hG
  go_enter Tryz.func202, Tryz.ntmps202
  go_wp2_with fail
  clear hS0
  generalize w.alloc (.cells #[.func (.func 245) #[] #[]] 324) = w1 at HG HB HK0 ⊢
  go_loopw [6] (fun s6 wr => ∃ (i : Nat) (ws : List Nat), i ≤ n ∧ s6 = .int .i64 (i : Int) ∧ GM wr G C n n rs ws (unm f 7 n i 0) ∧ Kept [C] w1 wr) (fun s _ => (n - intOf s).toNat)
  case atStart => exact ⟨0, ws, by omega, rfl, by rw [unm_start]; exact HG.out, Kept.refl _ _⟩
  case round =>
    obtain ⟨i, ws1, hi, rfl, hg, hk⟩ := hrel
    have HG1 := Lib.hid hg
    have HK1 := Lib.hid hk
    clear hg hk
    by_cases hlt : i < n
    · have ii : (i : Int) < n := by omega
      obtain ⟨wo, rfl⟩ : ∃ wo : World, wo = wr := ⟨_, rfl⟩
      go_wp2_with fail
      go_loopw [7] (fun s7 wr => ∃ (j : Nat) (ws : List Nat), j ≤ n ∧ s7 = .int .i64 (j : Int) ∧ GM wr G C n n rs ws (unm f 7 n i j) ∧ Kept [C] w1 wr) (fun s _ => (n - intOf s).toNat)
      case atStart => exact ⟨0, ws1, by omega, rfl, HG1.out, HK1.out⟩
      case round =>
        clear HG1 HK1
        obtain ⟨j, ws2, hj, rfl, hg, hk⟩ := hrel
        have HG2 := Lib.hid hg
        have HK2 := Lib.hid hk
        clear hg hk
        by_cases hltj : j < n
        · have ij : (j : Int) < n := by omega
          have hc := (HK2.out.blk HB.out (by simp; omega)).at (i := 0) rfl
          go_wp2_with fail
          refine (unmask7_c j i (by omega) (by omega) wr).mono ?_
          rintro e wx ⟨rfl, rfl⟩
          cases hm : maskBit 7 j i with
          | true =>
            have HST := Lib.hid (gmFlip_c HG2.out hlt (x := j) (by have := HG2.out.wide; omega))
            have HM := Lib.hid hm
            clear hm hc
            go_wp2_with fail
            refine HST.out.mono ?_
            rintro e w7 ⟨rfl, hg7, hk7⟩
            rw [unm_turn hltj HM.out] at hg7
            have HG7 := Lib.hid hg7
            have HK7 := Lib.hid (HK2.out.then hk7)
            clear hg7 hk7
            go_wp2_with fail
            go_roundw
            case rel => exact ⟨j + 1, _, by omega, by go_num, HG7.out, HK7.out⟩
            case measure => simp [intOf]; omega
          | false =>
            have HG7 : Hid (GM wr G C n n rs ws2 (unm f 7 n i (j + 1))) := Lib.hid (by rw [← unm_keep hm]; exact HG2.out)
            clear hm hc
            go_wp2_with fail
            go_roundw
            case rel => exact ⟨j + 1, ws2, by omega, by go_num, HG7.out, HK2.out⟩
            case measure => simp [intOf]; omega
        · obtain rfl : j = n := by omega
          have HG7 : Hid (GM wr G C j j rs ws2 (unm f 7 j (i + 1) 0)) := Lib.hid (by rw [← unm_row]; exact HG2.out)
          go_wp2_with fail
          go_roundw
          case rel => exact ⟨i + 1, ws2, by omega, by go_num, HG7.out, HK2.out⟩
          case measure => simp [intOf]; omega
    · obtain rfl : i = n := by omega
      go_wp2_with fail
      go_end0
      exact ⟨rfl, ⟨ws1, HG1.out⟩, (HK0.out.mono (by simp)).then HK1.out⟩
theorem unmaskAll_c {w : World} {G C n rs : Nat} {ws : List Nat} {f : Nat → Nat → Bool} (hG : GM w G C n n rs ws f) (hn : n ≤ 200) (m : Nat) (hm : m < 8) :
    Calls Tryz.prog 202 #[.agg #[.func (.func (238 + m)) #[] #[]], ptv G, .int .i64 (n : Int)] w fun e w' => e = .returned (.tuple #[]) ∧ (∃ ws', GM w' G C n n rs ws' (unm f m n n 0)) ∧ Kept [C] w w' := by
  match m, hm with
  | 0, _ => exact unmaskAll0_c hG hn
  | 1, _ => exact unmaskAll1_c hG hn
  | 2, _ => exact unmaskAll2_c hG hn
  | 3, _ => exact unmaskAll3_c hG hn
  | 4, _ => exact unmaskAll4_c hG hn
  | 5, _ => exact unmaskAll5_c hG hn
  | 6, _ => exact unmaskAll6_c hG hn
  | 7, _ => exact unmaskAll7_c hG hn
/-- The masks' functions, in their order. -/
def maskFns : List Value := (List.range 8).map fun m => .func (.func (238 + m)) #[] #[]
theorem maskValues_c (w : World) : Calls Tryz.prog 200 #[] w fun e w' => e = .returned (slv w.heap.size 8 8) ∧ Blk w' w.heap.size maskFns 324 ∧ Kept [] w w' := by
  go_enter Tryz.func200, Tryz.ntmps200
  go_wp2
  go_ret
  exact ⟨rfl, Blk.new w maskFns 324, (Kept.refl _ _).alloc _⟩
end
end Go.Proofs.YtplpafbkalkchaaGreatDoor
