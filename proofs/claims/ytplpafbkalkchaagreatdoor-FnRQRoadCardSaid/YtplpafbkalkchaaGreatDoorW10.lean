/- Walks: how many bytes a block has; pairs of blocks. -/
import Derived.Test.YtplpafbkalkchaaGreatDoorW01
import Derived.Test.YtplpafbkalkchaaGreatDoorW09
namespace Go.Proofs.YtplpafbkalkchaaGreatDoor
open Go Go.RowKit Go.Proofs
set_option linter.all false

section
/-- The data bytes of block i, of nB blocks that have nD together; nT bytes in all. -/
def dataLen (nT nD nB i : Nat) : Nat := if i < nB - nT % nB then nD / nB else nD / nB + 1
theorem blockLen_at (nB g2 t1 d1 nT nD i : Nat) (lT : nT ≤ 300) (lD : nD ≤ nT) (hi : i < nB) (e1 : nT / nB = t1) (e2 : nT % nB = g2) (e3 : nD / nB = d1) (w : World)
    (h : ∀ (q1 : (nT : Int) / nB = (t1 : Int)) (q2 : (nT : Int) % nB = (g2 : Int)) (q3 : (nD : Int) / nB = (d1 : Int)) (h1 : (nT : Int) ≤ nB * t1 + g2) (h2 : (nB : Int) * t1 + g2 ≤ nT) (h3 : (d1 : Int) ≤ t1),
      Calls Tryz.prog 116 #[num nT, num nD, num nB, num i] w fun e w' => e = .returned (.tuple #[num (if i < nB - g2 then d1 else d1 + 1), num (t1 - d1), .nilIface]) ∧ w = w') :
    Calls Tryz.prog 116 #[num nT, num nD, num nB, num i] w fun e w' => e = .returned (.tuple #[num (dataLen nT nD nB i), num (nT / nB - nD / nB), .nilIface]) ∧ w = w' := by
  unfold dataLen
  rw [e1, e2, e3]
  have hdm := Nat.div_add_mod nT nB
  rw [e1, e2] at hdm
  have hc : ((nB * t1 + g2 : Nat) : Int) = (nT : Int) := by rw [hdm]
  rw [Int.natCast_add, Int.natCast_mul] at hc
  refine h (by rw [← e1]; rfl) (by rw [← e2]; rfl) (by rw [← e3]; rfl) (by omega) (by omega) ?_
  have := Nat.div_le_div_right (c := nB) lD
  omega
theorem ret_two {a b c d : Int} (h : a = b) (k : c = d) : Ending.returned (.tuple #[.int .i64 a, .int .i64 c, .nilIface]) = .returned (.tuple #[.int .i64 b, .int .i64 d, .nilIface]) := by rw [h, k]
theorem blockLen_1_0_l (t1 d1 nT nD i : Nat) (w : World) (lT : (nT : Int) ≤ 300) (lD : (nD : Int) ≤ nT) (hi : (i : Int) < 1) (hc : (i : Int) < 1)
    (q1 : (nT : Int) / 1 = (t1 : Int)) (q2 : (nT : Int) % 1 = 0) (q3 : (nD : Int) / 1 = (d1 : Int)) (h1 : (nT : Int) ≤ 1 * t1 + 0) (h2 : 1 * (t1 : Int) + 0 ≤ nT) (h3 : (d1 : Int) ≤ t1) :
    Calls Tryz.prog 116 #[num nT, num nD, .int .i64 1, num i] w fun e w' => e = .returned (.tuple #[.int .i64 ((d1 : Int)), .int .i64 ((t1 : Int) - d1), .nilIface]) ∧ w = w' := by
  go_enter Tryz.func116, Tryz.ntmps116
  go_wp2
  go_ret3
  exact ⟨ret_two (by omega) (by omega), rfl⟩
theorem blockLen_2_0_l (t1 d1 nT nD i : Nat) (w : World) (lT : (nT : Int) ≤ 300) (lD : (nD : Int) ≤ nT) (hi : (i : Int) < 2) (hc : (i : Int) < 2)
    (q1 : (nT : Int) / 2 = (t1 : Int)) (q2 : (nT : Int) % 2 = 0) (q3 : (nD : Int) / 2 = (d1 : Int)) (h1 : (nT : Int) ≤ 2 * t1 + 0) (h2 : 2 * (t1 : Int) + 0 ≤ nT) (h3 : (d1 : Int) ≤ t1) :
    Calls Tryz.prog 116 #[num nT, num nD, .int .i64 2, num i] w fun e w' => e = .returned (.tuple #[.int .i64 ((d1 : Int)), .int .i64 ((t1 : Int) - d1), .nilIface]) ∧ w = w' := by
  go_enter Tryz.func116, Tryz.ntmps116
  go_wp2
  go_ret3
  exact ⟨ret_two (by omega) (by omega), rfl⟩
theorem blockLen_2_1_l (t1 d1 nT nD i : Nat) (w : World) (lT : (nT : Int) ≤ 300) (lD : (nD : Int) ≤ nT) (hi : (i : Int) < 2) (hc : (i : Int) < 1)
    (q1 : (nT : Int) / 2 = (t1 : Int)) (q2 : (nT : Int) % 2 = 1) (q3 : (nD : Int) / 2 = (d1 : Int)) (h1 : (nT : Int) ≤ 2 * t1 + 1) (h2 : 2 * (t1 : Int) + 1 ≤ nT) (h3 : (d1 : Int) ≤ t1) :
    Calls Tryz.prog 116 #[num nT, num nD, .int .i64 2, num i] w fun e w' => e = .returned (.tuple #[.int .i64 ((d1 : Int)), .int .i64 ((t1 : Int) - d1), .nilIface]) ∧ w = w' := by
  go_enter Tryz.func116, Tryz.ntmps116
  go_wp2
  go_ret3
  exact ⟨ret_two (by omega) (by omega), rfl⟩
theorem blockLen_2_1_h (t1 d1 nT nD i : Nat) (w : World) (lT : (nT : Int) ≤ 300) (lD : (nD : Int) ≤ nT) (hi : (i : Int) < 2) (hc : 1 ≤ (i : Int))
    (q1 : (nT : Int) / 2 = (t1 : Int)) (q2 : (nT : Int) % 2 = 1) (q3 : (nD : Int) / 2 = (d1 : Int)) (h1 : (nT : Int) ≤ 2 * t1 + 1) (h2 : 2 * (t1 : Int) + 1 ≤ nT) (h3 : (d1 : Int) ≤ t1) :
    Calls Tryz.prog 116 #[num nT, num nD, .int .i64 2, num i] w fun e w' => e = .returned (.tuple #[.int .i64 ((d1 : Int) + 1), .int .i64 ((t1 : Int) - d1), .nilIface]) ∧ w = w' := by
  go_enter Tryz.func116, Tryz.ntmps116
  go_wp2
  go_ret3
  exact ⟨ret_two (by omega) (by omega), rfl⟩
theorem blockLen_4_0_l (t1 d1 nT nD i : Nat) (w : World) (lT : (nT : Int) ≤ 300) (lD : (nD : Int) ≤ nT) (hi : (i : Int) < 4) (hc : (i : Int) < 4)
    (q1 : (nT : Int) / 4 = (t1 : Int)) (q2 : (nT : Int) % 4 = 0) (q3 : (nD : Int) / 4 = (d1 : Int)) (h1 : (nT : Int) ≤ 4 * t1 + 0) (h2 : 4 * (t1 : Int) + 0 ≤ nT) (h3 : (d1 : Int) ≤ t1) :
    Calls Tryz.prog 116 #[num nT, num nD, .int .i64 4, num i] w fun e w' => e = .returned (.tuple #[.int .i64 ((d1 : Int)), .int .i64 ((t1 : Int) - d1), .nilIface]) ∧ w = w' := by
  go_enter Tryz.func116, Tryz.ntmps116
  go_wp2
  go_ret3
  exact ⟨ret_two (by omega) (by omega), rfl⟩
theorem blockLen_4_1_l (t1 d1 nT nD i : Nat) (w : World) (lT : (nT : Int) ≤ 300) (lD : (nD : Int) ≤ nT) (hi : (i : Int) < 4) (hc : (i : Int) < 3)
    (q1 : (nT : Int) / 4 = (t1 : Int)) (q2 : (nT : Int) % 4 = 1) (q3 : (nD : Int) / 4 = (d1 : Int)) (h1 : (nT : Int) ≤ 4 * t1 + 1) (h2 : 4 * (t1 : Int) + 1 ≤ nT) (h3 : (d1 : Int) ≤ t1) :
    Calls Tryz.prog 116 #[num nT, num nD, .int .i64 4, num i] w fun e w' => e = .returned (.tuple #[.int .i64 ((d1 : Int)), .int .i64 ((t1 : Int) - d1), .nilIface]) ∧ w = w' := by
  go_enter Tryz.func116, Tryz.ntmps116
  go_wp2
  go_ret3
  exact ⟨ret_two (by omega) (by omega), rfl⟩
theorem blockLen_4_1_h (t1 d1 nT nD i : Nat) (w : World) (lT : (nT : Int) ≤ 300) (lD : (nD : Int) ≤ nT) (hi : (i : Int) < 4) (hc : 3 ≤ (i : Int))
    (q1 : (nT : Int) / 4 = (t1 : Int)) (q2 : (nT : Int) % 4 = 1) (q3 : (nD : Int) / 4 = (d1 : Int)) (h1 : (nT : Int) ≤ 4 * t1 + 1) (h2 : 4 * (t1 : Int) + 1 ≤ nT) (h3 : (d1 : Int) ≤ t1) :
    Calls Tryz.prog 116 #[num nT, num nD, .int .i64 4, num i] w fun e w' => e = .returned (.tuple #[.int .i64 ((d1 : Int) + 1), .int .i64 ((t1 : Int) - d1), .nilIface]) ∧ w = w' := by
  go_enter Tryz.func116, Tryz.ntmps116
  go_wp2
  go_ret3
  exact ⟨ret_two (by omega) (by omega), rfl⟩
theorem blockLen_4_2_l (t1 d1 nT nD i : Nat) (w : World) (lT : (nT : Int) ≤ 300) (lD : (nD : Int) ≤ nT) (hi : (i : Int) < 4) (hc : (i : Int) < 2)
    (q1 : (nT : Int) / 4 = (t1 : Int)) (q2 : (nT : Int) % 4 = 2) (q3 : (nD : Int) / 4 = (d1 : Int)) (h1 : (nT : Int) ≤ 4 * t1 + 2) (h2 : 4 * (t1 : Int) + 2 ≤ nT) (h3 : (d1 : Int) ≤ t1) :
    Calls Tryz.prog 116 #[num nT, num nD, .int .i64 4, num i] w fun e w' => e = .returned (.tuple #[.int .i64 ((d1 : Int)), .int .i64 ((t1 : Int) - d1), .nilIface]) ∧ w = w' := by
  go_enter Tryz.func116, Tryz.ntmps116
  go_wp2
  go_ret3
  exact ⟨ret_two (by omega) (by omega), rfl⟩
theorem blockLen_4_2_h (t1 d1 nT nD i : Nat) (w : World) (lT : (nT : Int) ≤ 300) (lD : (nD : Int) ≤ nT) (hi : (i : Int) < 4) (hc : 2 ≤ (i : Int))
    (q1 : (nT : Int) / 4 = (t1 : Int)) (q2 : (nT : Int) % 4 = 2) (q3 : (nD : Int) / 4 = (d1 : Int)) (h1 : (nT : Int) ≤ 4 * t1 + 2) (h2 : 4 * (t1 : Int) + 2 ≤ nT) (h3 : (d1 : Int) ≤ t1) :
    Calls Tryz.prog 116 #[num nT, num nD, .int .i64 4, num i] w fun e w' => e = .returned (.tuple #[.int .i64 ((d1 : Int) + 1), .int .i64 ((t1 : Int) - d1), .nilIface]) ∧ w = w' := by
  go_enter Tryz.func116, Tryz.ntmps116
  go_wp2
  go_ret3
  exact ⟨ret_two (by omega) (by omega), rfl⟩
theorem blockLen_4_3_l (t1 d1 nT nD i : Nat) (w : World) (lT : (nT : Int) ≤ 300) (lD : (nD : Int) ≤ nT) (hi : (i : Int) < 4) (hc : (i : Int) < 1)
    (q1 : (nT : Int) / 4 = (t1 : Int)) (q2 : (nT : Int) % 4 = 3) (q3 : (nD : Int) / 4 = (d1 : Int)) (h1 : (nT : Int) ≤ 4 * t1 + 3) (h2 : 4 * (t1 : Int) + 3 ≤ nT) (h3 : (d1 : Int) ≤ t1) :
    Calls Tryz.prog 116 #[num nT, num nD, .int .i64 4, num i] w fun e w' => e = .returned (.tuple #[.int .i64 ((d1 : Int)), .int .i64 ((t1 : Int) - d1), .nilIface]) ∧ w = w' := by
  go_enter Tryz.func116, Tryz.ntmps116
  go_wp2
  go_ret3
  exact ⟨ret_two (by omega) (by omega), rfl⟩
theorem blockLen_4_3_h (t1 d1 nT nD i : Nat) (w : World) (lT : (nT : Int) ≤ 300) (lD : (nD : Int) ≤ nT) (hi : (i : Int) < 4) (hc : 1 ≤ (i : Int))
    (q1 : (nT : Int) / 4 = (t1 : Int)) (q2 : (nT : Int) % 4 = 3) (q3 : (nD : Int) / 4 = (d1 : Int)) (h1 : (nT : Int) ≤ 4 * t1 + 3) (h2 : 4 * (t1 : Int) + 3 ≤ nT) (h3 : (d1 : Int) ≤ t1) :
    Calls Tryz.prog 116 #[num nT, num nD, .int .i64 4, num i] w fun e w' => e = .returned (.tuple #[.int .i64 ((d1 : Int) + 1), .int .i64 ((t1 : Int) - d1), .nilIface]) ∧ w = w' := by
  go_enter Tryz.func116, Tryz.ntmps116
  go_wp2
  go_ret3
  exact ⟨ret_two (by omega) (by omega), rfl⟩
theorem blockLen_5_0_l (t1 d1 nT nD i : Nat) (w : World) (lT : (nT : Int) ≤ 300) (lD : (nD : Int) ≤ nT) (hi : (i : Int) < 5) (hc : (i : Int) < 5)
    (q1 : (nT : Int) / 5 = (t1 : Int)) (q2 : (nT : Int) % 5 = 0) (q3 : (nD : Int) / 5 = (d1 : Int)) (h1 : (nT : Int) ≤ 5 * t1 + 0) (h2 : 5 * (t1 : Int) + 0 ≤ nT) (h3 : (d1 : Int) ≤ t1) :
    Calls Tryz.prog 116 #[num nT, num nD, .int .i64 5, num i] w fun e w' => e = .returned (.tuple #[.int .i64 ((d1 : Int)), .int .i64 ((t1 : Int) - d1), .nilIface]) ∧ w = w' := by
  go_enter Tryz.func116, Tryz.ntmps116
  go_wp2
  go_ret3
  exact ⟨ret_two (by omega) (by omega), rfl⟩
theorem blockLen_5_1_l (t1 d1 nT nD i : Nat) (w : World) (lT : (nT : Int) ≤ 300) (lD : (nD : Int) ≤ nT) (hi : (i : Int) < 5) (hc : (i : Int) < 4)
    (q1 : (nT : Int) / 5 = (t1 : Int)) (q2 : (nT : Int) % 5 = 1) (q3 : (nD : Int) / 5 = (d1 : Int)) (h1 : (nT : Int) ≤ 5 * t1 + 1) (h2 : 5 * (t1 : Int) + 1 ≤ nT) (h3 : (d1 : Int) ≤ t1) :
    Calls Tryz.prog 116 #[num nT, num nD, .int .i64 5, num i] w fun e w' => e = .returned (.tuple #[.int .i64 ((d1 : Int)), .int .i64 ((t1 : Int) - d1), .nilIface]) ∧ w = w' := by
  go_enter Tryz.func116, Tryz.ntmps116
  go_wp2
  go_ret3
  exact ⟨ret_two (by omega) (by omega), rfl⟩
theorem blockLen_5_1_h (t1 d1 nT nD i : Nat) (w : World) (lT : (nT : Int) ≤ 300) (lD : (nD : Int) ≤ nT) (hi : (i : Int) < 5) (hc : 4 ≤ (i : Int))
    (q1 : (nT : Int) / 5 = (t1 : Int)) (q2 : (nT : Int) % 5 = 1) (q3 : (nD : Int) / 5 = (d1 : Int)) (h1 : (nT : Int) ≤ 5 * t1 + 1) (h2 : 5 * (t1 : Int) + 1 ≤ nT) (h3 : (d1 : Int) ≤ t1) :
    Calls Tryz.prog 116 #[num nT, num nD, .int .i64 5, num i] w fun e w' => e = .returned (.tuple #[.int .i64 ((d1 : Int) + 1), .int .i64 ((t1 : Int) - d1), .nilIface]) ∧ w = w' := by
  go_enter Tryz.func116, Tryz.ntmps116
  go_wp2
  go_ret3
  exact ⟨ret_two (by omega) (by omega), rfl⟩
theorem blockLen_5_2_l (t1 d1 nT nD i : Nat) (w : World) (lT : (nT : Int) ≤ 300) (lD : (nD : Int) ≤ nT) (hi : (i : Int) < 5) (hc : (i : Int) < 3)
    (q1 : (nT : Int) / 5 = (t1 : Int)) (q2 : (nT : Int) % 5 = 2) (q3 : (nD : Int) / 5 = (d1 : Int)) (h1 : (nT : Int) ≤ 5 * t1 + 2) (h2 : 5 * (t1 : Int) + 2 ≤ nT) (h3 : (d1 : Int) ≤ t1) :
    Calls Tryz.prog 116 #[num nT, num nD, .int .i64 5, num i] w fun e w' => e = .returned (.tuple #[.int .i64 ((d1 : Int)), .int .i64 ((t1 : Int) - d1), .nilIface]) ∧ w = w' := by
  go_enter Tryz.func116, Tryz.ntmps116
  go_wp2
  go_ret3
  exact ⟨ret_two (by omega) (by omega), rfl⟩
theorem blockLen_5_2_h (t1 d1 nT nD i : Nat) (w : World) (lT : (nT : Int) ≤ 300) (lD : (nD : Int) ≤ nT) (hi : (i : Int) < 5) (hc : 3 ≤ (i : Int))
    (q1 : (nT : Int) / 5 = (t1 : Int)) (q2 : (nT : Int) % 5 = 2) (q3 : (nD : Int) / 5 = (d1 : Int)) (h1 : (nT : Int) ≤ 5 * t1 + 2) (h2 : 5 * (t1 : Int) + 2 ≤ nT) (h3 : (d1 : Int) ≤ t1) :
    Calls Tryz.prog 116 #[num nT, num nD, .int .i64 5, num i] w fun e w' => e = .returned (.tuple #[.int .i64 ((d1 : Int) + 1), .int .i64 ((t1 : Int) - d1), .nilIface]) ∧ w = w' := by
  go_enter Tryz.func116, Tryz.ntmps116
  go_wp2
  go_ret3
  exact ⟨ret_two (by omega) (by omega), rfl⟩
theorem blockLen_5_3_l (t1 d1 nT nD i : Nat) (w : World) (lT : (nT : Int) ≤ 300) (lD : (nD : Int) ≤ nT) (hi : (i : Int) < 5) (hc : (i : Int) < 2)
    (q1 : (nT : Int) / 5 = (t1 : Int)) (q2 : (nT : Int) % 5 = 3) (q3 : (nD : Int) / 5 = (d1 : Int)) (h1 : (nT : Int) ≤ 5 * t1 + 3) (h2 : 5 * (t1 : Int) + 3 ≤ nT) (h3 : (d1 : Int) ≤ t1) :
    Calls Tryz.prog 116 #[num nT, num nD, .int .i64 5, num i] w fun e w' => e = .returned (.tuple #[.int .i64 ((d1 : Int)), .int .i64 ((t1 : Int) - d1), .nilIface]) ∧ w = w' := by
  go_enter Tryz.func116, Tryz.ntmps116
  go_wp2
  go_ret3
  exact ⟨ret_two (by omega) (by omega), rfl⟩
theorem blockLen_5_3_h (t1 d1 nT nD i : Nat) (w : World) (lT : (nT : Int) ≤ 300) (lD : (nD : Int) ≤ nT) (hi : (i : Int) < 5) (hc : 2 ≤ (i : Int))
    (q1 : (nT : Int) / 5 = (t1 : Int)) (q2 : (nT : Int) % 5 = 3) (q3 : (nD : Int) / 5 = (d1 : Int)) (h1 : (nT : Int) ≤ 5 * t1 + 3) (h2 : 5 * (t1 : Int) + 3 ≤ nT) (h3 : (d1 : Int) ≤ t1) :
    Calls Tryz.prog 116 #[num nT, num nD, .int .i64 5, num i] w fun e w' => e = .returned (.tuple #[.int .i64 ((d1 : Int) + 1), .int .i64 ((t1 : Int) - d1), .nilIface]) ∧ w = w' := by
  go_enter Tryz.func116, Tryz.ntmps116
  go_wp2
  go_ret3
  exact ⟨ret_two (by omega) (by omega), rfl⟩
theorem blockLen_5_4_l (t1 d1 nT nD i : Nat) (w : World) (lT : (nT : Int) ≤ 300) (lD : (nD : Int) ≤ nT) (hi : (i : Int) < 5) (hc : (i : Int) < 1)
    (q1 : (nT : Int) / 5 = (t1 : Int)) (q2 : (nT : Int) % 5 = 4) (q3 : (nD : Int) / 5 = (d1 : Int)) (h1 : (nT : Int) ≤ 5 * t1 + 4) (h2 : 5 * (t1 : Int) + 4 ≤ nT) (h3 : (d1 : Int) ≤ t1) :
    Calls Tryz.prog 116 #[num nT, num nD, .int .i64 5, num i] w fun e w' => e = .returned (.tuple #[.int .i64 ((d1 : Int)), .int .i64 ((t1 : Int) - d1), .nilIface]) ∧ w = w' := by
  go_enter Tryz.func116, Tryz.ntmps116
  go_wp2
  go_ret3
  exact ⟨ret_two (by omega) (by omega), rfl⟩
theorem blockLen_5_4_h (t1 d1 nT nD i : Nat) (w : World) (lT : (nT : Int) ≤ 300) (lD : (nD : Int) ≤ nT) (hi : (i : Int) < 5) (hc : 1 ≤ (i : Int))
    (q1 : (nT : Int) / 5 = (t1 : Int)) (q2 : (nT : Int) % 5 = 4) (q3 : (nD : Int) / 5 = (d1 : Int)) (h1 : (nT : Int) ≤ 5 * t1 + 4) (h2 : 5 * (t1 : Int) + 4 ≤ nT) (h3 : (d1 : Int) ≤ t1) :
    Calls Tryz.prog 116 #[num nT, num nD, .int .i64 5, num i] w fun e w' => e = .returned (.tuple #[.int .i64 ((d1 : Int) + 1), .int .i64 ((t1 : Int) - d1), .nilIface]) ∧ w = w' := by
  go_enter Tryz.func116, Tryz.ntmps116
  go_wp2
  go_ret3
  exact ⟨ret_two (by omega) (by omega), rfl⟩
theorem blockLen_6_0_l (t1 d1 nT nD i : Nat) (w : World) (lT : (nT : Int) ≤ 300) (lD : (nD : Int) ≤ nT) (hi : (i : Int) < 6) (hc : (i : Int) < 6)
    (q1 : (nT : Int) / 6 = (t1 : Int)) (q2 : (nT : Int) % 6 = 0) (q3 : (nD : Int) / 6 = (d1 : Int)) (h1 : (nT : Int) ≤ 6 * t1 + 0) (h2 : 6 * (t1 : Int) + 0 ≤ nT) (h3 : (d1 : Int) ≤ t1) :
    Calls Tryz.prog 116 #[num nT, num nD, .int .i64 6, num i] w fun e w' => e = .returned (.tuple #[.int .i64 ((d1 : Int)), .int .i64 ((t1 : Int) - d1), .nilIface]) ∧ w = w' := by
  go_enter Tryz.func116, Tryz.ntmps116
  go_wp2
  go_ret3
  exact ⟨ret_two (by omega) (by omega), rfl⟩
theorem blockLen_6_1_l (t1 d1 nT nD i : Nat) (w : World) (lT : (nT : Int) ≤ 300) (lD : (nD : Int) ≤ nT) (hi : (i : Int) < 6) (hc : (i : Int) < 5)
    (q1 : (nT : Int) / 6 = (t1 : Int)) (q2 : (nT : Int) % 6 = 1) (q3 : (nD : Int) / 6 = (d1 : Int)) (h1 : (nT : Int) ≤ 6 * t1 + 1) (h2 : 6 * (t1 : Int) + 1 ≤ nT) (h3 : (d1 : Int) ≤ t1) :
    Calls Tryz.prog 116 #[num nT, num nD, .int .i64 6, num i] w fun e w' => e = .returned (.tuple #[.int .i64 ((d1 : Int)), .int .i64 ((t1 : Int) - d1), .nilIface]) ∧ w = w' := by
  go_enter Tryz.func116, Tryz.ntmps116
  go_wp2
  go_ret3
  exact ⟨ret_two (by omega) (by omega), rfl⟩
theorem blockLen_6_1_h (t1 d1 nT nD i : Nat) (w : World) (lT : (nT : Int) ≤ 300) (lD : (nD : Int) ≤ nT) (hi : (i : Int) < 6) (hc : 5 ≤ (i : Int))
    (q1 : (nT : Int) / 6 = (t1 : Int)) (q2 : (nT : Int) % 6 = 1) (q3 : (nD : Int) / 6 = (d1 : Int)) (h1 : (nT : Int) ≤ 6 * t1 + 1) (h2 : 6 * (t1 : Int) + 1 ≤ nT) (h3 : (d1 : Int) ≤ t1) :
    Calls Tryz.prog 116 #[num nT, num nD, .int .i64 6, num i] w fun e w' => e = .returned (.tuple #[.int .i64 ((d1 : Int) + 1), .int .i64 ((t1 : Int) - d1), .nilIface]) ∧ w = w' := by
  go_enter Tryz.func116, Tryz.ntmps116
  go_wp2
  go_ret3
  exact ⟨ret_two (by omega) (by omega), rfl⟩
theorem blockLen_6_2_l (t1 d1 nT nD i : Nat) (w : World) (lT : (nT : Int) ≤ 300) (lD : (nD : Int) ≤ nT) (hi : (i : Int) < 6) (hc : (i : Int) < 4)
    (q1 : (nT : Int) / 6 = (t1 : Int)) (q2 : (nT : Int) % 6 = 2) (q3 : (nD : Int) / 6 = (d1 : Int)) (h1 : (nT : Int) ≤ 6 * t1 + 2) (h2 : 6 * (t1 : Int) + 2 ≤ nT) (h3 : (d1 : Int) ≤ t1) :
    Calls Tryz.prog 116 #[num nT, num nD, .int .i64 6, num i] w fun e w' => e = .returned (.tuple #[.int .i64 ((d1 : Int)), .int .i64 ((t1 : Int) - d1), .nilIface]) ∧ w = w' := by
  go_enter Tryz.func116, Tryz.ntmps116
  go_wp2
  go_ret3
  exact ⟨ret_two (by omega) (by omega), rfl⟩
theorem blockLen_6_2_h (t1 d1 nT nD i : Nat) (w : World) (lT : (nT : Int) ≤ 300) (lD : (nD : Int) ≤ nT) (hi : (i : Int) < 6) (hc : 4 ≤ (i : Int))
    (q1 : (nT : Int) / 6 = (t1 : Int)) (q2 : (nT : Int) % 6 = 2) (q3 : (nD : Int) / 6 = (d1 : Int)) (h1 : (nT : Int) ≤ 6 * t1 + 2) (h2 : 6 * (t1 : Int) + 2 ≤ nT) (h3 : (d1 : Int) ≤ t1) :
    Calls Tryz.prog 116 #[num nT, num nD, .int .i64 6, num i] w fun e w' => e = .returned (.tuple #[.int .i64 ((d1 : Int) + 1), .int .i64 ((t1 : Int) - d1), .nilIface]) ∧ w = w' := by
  go_enter Tryz.func116, Tryz.ntmps116
  go_wp2
  go_ret3
  exact ⟨ret_two (by omega) (by omega), rfl⟩
theorem blockLen_6_3_l (t1 d1 nT nD i : Nat) (w : World) (lT : (nT : Int) ≤ 300) (lD : (nD : Int) ≤ nT) (hi : (i : Int) < 6) (hc : (i : Int) < 3)
    (q1 : (nT : Int) / 6 = (t1 : Int)) (q2 : (nT : Int) % 6 = 3) (q3 : (nD : Int) / 6 = (d1 : Int)) (h1 : (nT : Int) ≤ 6 * t1 + 3) (h2 : 6 * (t1 : Int) + 3 ≤ nT) (h3 : (d1 : Int) ≤ t1) :
    Calls Tryz.prog 116 #[num nT, num nD, .int .i64 6, num i] w fun e w' => e = .returned (.tuple #[.int .i64 ((d1 : Int)), .int .i64 ((t1 : Int) - d1), .nilIface]) ∧ w = w' := by
  go_enter Tryz.func116, Tryz.ntmps116
  go_wp2
  go_ret3
  exact ⟨ret_two (by omega) (by omega), rfl⟩
theorem blockLen_6_3_h (t1 d1 nT nD i : Nat) (w : World) (lT : (nT : Int) ≤ 300) (lD : (nD : Int) ≤ nT) (hi : (i : Int) < 6) (hc : 3 ≤ (i : Int))
    (q1 : (nT : Int) / 6 = (t1 : Int)) (q2 : (nT : Int) % 6 = 3) (q3 : (nD : Int) / 6 = (d1 : Int)) (h1 : (nT : Int) ≤ 6 * t1 + 3) (h2 : 6 * (t1 : Int) + 3 ≤ nT) (h3 : (d1 : Int) ≤ t1) :
    Calls Tryz.prog 116 #[num nT, num nD, .int .i64 6, num i] w fun e w' => e = .returned (.tuple #[.int .i64 ((d1 : Int) + 1), .int .i64 ((t1 : Int) - d1), .nilIface]) ∧ w = w' := by
  go_enter Tryz.func116, Tryz.ntmps116
  go_wp2
  go_ret3
  exact ⟨ret_two (by omega) (by omega), rfl⟩
theorem blockLen_6_4_l (t1 d1 nT nD i : Nat) (w : World) (lT : (nT : Int) ≤ 300) (lD : (nD : Int) ≤ nT) (hi : (i : Int) < 6) (hc : (i : Int) < 2)
    (q1 : (nT : Int) / 6 = (t1 : Int)) (q2 : (nT : Int) % 6 = 4) (q3 : (nD : Int) / 6 = (d1 : Int)) (h1 : (nT : Int) ≤ 6 * t1 + 4) (h2 : 6 * (t1 : Int) + 4 ≤ nT) (h3 : (d1 : Int) ≤ t1) :
    Calls Tryz.prog 116 #[num nT, num nD, .int .i64 6, num i] w fun e w' => e = .returned (.tuple #[.int .i64 ((d1 : Int)), .int .i64 ((t1 : Int) - d1), .nilIface]) ∧ w = w' := by
  go_enter Tryz.func116, Tryz.ntmps116
  go_wp2
  go_ret3
  exact ⟨ret_two (by omega) (by omega), rfl⟩
theorem blockLen_6_4_h (t1 d1 nT nD i : Nat) (w : World) (lT : (nT : Int) ≤ 300) (lD : (nD : Int) ≤ nT) (hi : (i : Int) < 6) (hc : 2 ≤ (i : Int))
    (q1 : (nT : Int) / 6 = (t1 : Int)) (q2 : (nT : Int) % 6 = 4) (q3 : (nD : Int) / 6 = (d1 : Int)) (h1 : (nT : Int) ≤ 6 * t1 + 4) (h2 : 6 * (t1 : Int) + 4 ≤ nT) (h3 : (d1 : Int) ≤ t1) :
    Calls Tryz.prog 116 #[num nT, num nD, .int .i64 6, num i] w fun e w' => e = .returned (.tuple #[.int .i64 ((d1 : Int) + 1), .int .i64 ((t1 : Int) - d1), .nilIface]) ∧ w = w' := by
  go_enter Tryz.func116, Tryz.ntmps116
  go_wp2
  go_ret3
  exact ⟨ret_two (by omega) (by omega), rfl⟩
theorem blockLen_6_5_l (t1 d1 nT nD i : Nat) (w : World) (lT : (nT : Int) ≤ 300) (lD : (nD : Int) ≤ nT) (hi : (i : Int) < 6) (hc : (i : Int) < 1)
    (q1 : (nT : Int) / 6 = (t1 : Int)) (q2 : (nT : Int) % 6 = 5) (q3 : (nD : Int) / 6 = (d1 : Int)) (h1 : (nT : Int) ≤ 6 * t1 + 5) (h2 : 6 * (t1 : Int) + 5 ≤ nT) (h3 : (d1 : Int) ≤ t1) :
    Calls Tryz.prog 116 #[num nT, num nD, .int .i64 6, num i] w fun e w' => e = .returned (.tuple #[.int .i64 ((d1 : Int)), .int .i64 ((t1 : Int) - d1), .nilIface]) ∧ w = w' := by
  go_enter Tryz.func116, Tryz.ntmps116
  go_wp2
  go_ret3
  exact ⟨ret_two (by omega) (by omega), rfl⟩
theorem blockLen_6_5_h (t1 d1 nT nD i : Nat) (w : World) (lT : (nT : Int) ≤ 300) (lD : (nD : Int) ≤ nT) (hi : (i : Int) < 6) (hc : 1 ≤ (i : Int))
    (q1 : (nT : Int) / 6 = (t1 : Int)) (q2 : (nT : Int) % 6 = 5) (q3 : (nD : Int) / 6 = (d1 : Int)) (h1 : (nT : Int) ≤ 6 * t1 + 5) (h2 : 6 * (t1 : Int) + 5 ≤ nT) (h3 : (d1 : Int) ≤ t1) :
    Calls Tryz.prog 116 #[num nT, num nD, .int .i64 6, num i] w fun e w' => e = .returned (.tuple #[.int .i64 ((d1 : Int) + 1), .int .i64 ((t1 : Int) - d1), .nilIface]) ∧ w = w' := by
  go_enter Tryz.func116, Tryz.ntmps116
  go_wp2
  go_ret3
  exact ⟨ret_two (by omega) (by omega), rfl⟩
theorem blockLen_c (nT nD nB i : Nat) (hB : nB = 1 ∨ nB = 2 ∨ nB = 4 ∨ nB = 5 ∨ nB = 6) (hT : nT ≤ 300) (hD : nD ≤ nT) (hi : i < nB) (w : World) :
    Calls Tryz.prog 116 #[num nT, num nD, num nB, num i] w fun e w' => e = .returned (.tuple #[num (dataLen nT nD nB i), num (nT / nB - nD / nB), .nilIface]) ∧ w = w' := by
  obtain ⟨t1, e1⟩ : ∃ t1, nT / nB = t1 := ⟨_, rfl⟩
  obtain ⟨d1, e3⟩ : ∃ d1, nD / nB = d1 := ⟨_, rfl⟩
  obtain ⟨g2, e2⟩ : ∃ g2, nT % nB = g2 := ⟨_, rfl⟩
  refine blockLen_at nB g2 t1 d1 nT nD i hT hD hi e1 e2 e3 w fun q1 q2 q3 h1 h2 h3 => ?_
  have hg : g2 < nB := by rw [← e2]; exact Nat.mod_lt _ (by omega)
  have hti : (nT : Int) ≤ 300 := by omega
  have hdi : (nD : Int) ≤ nT := by omega
  have hii : (i : Int) < nB := by omega
  rcases hB with rfl | rfl | rfl | rfl | rfl
  · rcases (show g2 = 0 by omega) with rfl
    · have hc : (i : Int) < 1 := by omega
      rw [if_pos (by omega)]
      refine (blockLen_1_0_l t1 d1 nT nD i w hti hdi hii hc q1 q2 q3 h1 h2 h3).mono fun e w' ⟨he, hw⟩ => ⟨?_, hw⟩
      rw [he]; exact ret_two rfl (by omega)
  · rcases (show g2 = 0 ∨ g2 = 1 by omega) with rfl | rfl
    · have hc : (i : Int) < 2 := by omega
      rw [if_pos (by omega)]
      refine (blockLen_2_0_l t1 d1 nT nD i w hti hdi hii hc q1 q2 q3 h1 h2 h3).mono fun e w' ⟨he, hw⟩ => ⟨?_, hw⟩
      rw [he]; exact ret_two rfl (by omega)
    · by_cases hc : i < 2 - 1
      · rw [if_pos hc]
        refine (blockLen_2_1_l t1 d1 nT nD i w hti hdi hii (by omega) q1 q2 q3 h1 h2 h3).mono fun e w' ⟨he, hw⟩ => ⟨?_, hw⟩
        rw [he]; exact ret_two rfl (by omega)
      · rw [if_neg hc]
        refine (blockLen_2_1_h t1 d1 nT nD i w hti hdi hii (by omega) q1 q2 q3 h1 h2 h3).mono fun e w' ⟨he, hw⟩ => ⟨?_, hw⟩
        rw [he]; exact ret_two (by omega) (by omega)
  · rcases (show g2 = 0 ∨ g2 = 1 ∨ g2 = 2 ∨ g2 = 3 by omega) with rfl | rfl | rfl | rfl
    · have hc : (i : Int) < 4 := by omega
      rw [if_pos (by omega)]
      refine (blockLen_4_0_l t1 d1 nT nD i w hti hdi hii hc q1 q2 q3 h1 h2 h3).mono fun e w' ⟨he, hw⟩ => ⟨?_, hw⟩
      rw [he]; exact ret_two rfl (by omega)
    · by_cases hc : i < 4 - 1
      · rw [if_pos hc]
        refine (blockLen_4_1_l t1 d1 nT nD i w hti hdi hii (by omega) q1 q2 q3 h1 h2 h3).mono fun e w' ⟨he, hw⟩ => ⟨?_, hw⟩
        rw [he]; exact ret_two rfl (by omega)
      · rw [if_neg hc]
        refine (blockLen_4_1_h t1 d1 nT nD i w hti hdi hii (by omega) q1 q2 q3 h1 h2 h3).mono fun e w' ⟨he, hw⟩ => ⟨?_, hw⟩
        rw [he]; exact ret_two (by omega) (by omega)
    · by_cases hc : i < 4 - 2
      · rw [if_pos hc]
        refine (blockLen_4_2_l t1 d1 nT nD i w hti hdi hii (by omega) q1 q2 q3 h1 h2 h3).mono fun e w' ⟨he, hw⟩ => ⟨?_, hw⟩
        rw [he]; exact ret_two rfl (by omega)
      · rw [if_neg hc]
        refine (blockLen_4_2_h t1 d1 nT nD i w hti hdi hii (by omega) q1 q2 q3 h1 h2 h3).mono fun e w' ⟨he, hw⟩ => ⟨?_, hw⟩
        rw [he]; exact ret_two (by omega) (by omega)
    · by_cases hc : i < 4 - 3
      · rw [if_pos hc]
        refine (blockLen_4_3_l t1 d1 nT nD i w hti hdi hii (by omega) q1 q2 q3 h1 h2 h3).mono fun e w' ⟨he, hw⟩ => ⟨?_, hw⟩
        rw [he]; exact ret_two rfl (by omega)
      · rw [if_neg hc]
        refine (blockLen_4_3_h t1 d1 nT nD i w hti hdi hii (by omega) q1 q2 q3 h1 h2 h3).mono fun e w' ⟨he, hw⟩ => ⟨?_, hw⟩
        rw [he]; exact ret_two (by omega) (by omega)
  · rcases (show g2 = 0 ∨ g2 = 1 ∨ g2 = 2 ∨ g2 = 3 ∨ g2 = 4 by omega) with rfl | rfl | rfl | rfl | rfl
    · have hc : (i : Int) < 5 := by omega
      rw [if_pos (by omega)]
      refine (blockLen_5_0_l t1 d1 nT nD i w hti hdi hii hc q1 q2 q3 h1 h2 h3).mono fun e w' ⟨he, hw⟩ => ⟨?_, hw⟩
      rw [he]; exact ret_two rfl (by omega)
    · by_cases hc : i < 5 - 1
      · rw [if_pos hc]
        refine (blockLen_5_1_l t1 d1 nT nD i w hti hdi hii (by omega) q1 q2 q3 h1 h2 h3).mono fun e w' ⟨he, hw⟩ => ⟨?_, hw⟩
        rw [he]; exact ret_two rfl (by omega)
      · rw [if_neg hc]
        refine (blockLen_5_1_h t1 d1 nT nD i w hti hdi hii (by omega) q1 q2 q3 h1 h2 h3).mono fun e w' ⟨he, hw⟩ => ⟨?_, hw⟩
        rw [he]; exact ret_two (by omega) (by omega)
    · by_cases hc : i < 5 - 2
      · rw [if_pos hc]
        refine (blockLen_5_2_l t1 d1 nT nD i w hti hdi hii (by omega) q1 q2 q3 h1 h2 h3).mono fun e w' ⟨he, hw⟩ => ⟨?_, hw⟩
        rw [he]; exact ret_two rfl (by omega)
      · rw [if_neg hc]
        refine (blockLen_5_2_h t1 d1 nT nD i w hti hdi hii (by omega) q1 q2 q3 h1 h2 h3).mono fun e w' ⟨he, hw⟩ => ⟨?_, hw⟩
        rw [he]; exact ret_two (by omega) (by omega)
    · by_cases hc : i < 5 - 3
      · rw [if_pos hc]
        refine (blockLen_5_3_l t1 d1 nT nD i w hti hdi hii (by omega) q1 q2 q3 h1 h2 h3).mono fun e w' ⟨he, hw⟩ => ⟨?_, hw⟩
        rw [he]; exact ret_two rfl (by omega)
      · rw [if_neg hc]
        refine (blockLen_5_3_h t1 d1 nT nD i w hti hdi hii (by omega) q1 q2 q3 h1 h2 h3).mono fun e w' ⟨he, hw⟩ => ⟨?_, hw⟩
        rw [he]; exact ret_two (by omega) (by omega)
    · by_cases hc : i < 5 - 4
      · rw [if_pos hc]
        refine (blockLen_5_4_l t1 d1 nT nD i w hti hdi hii (by omega) q1 q2 q3 h1 h2 h3).mono fun e w' ⟨he, hw⟩ => ⟨?_, hw⟩
        rw [he]; exact ret_two rfl (by omega)
      · rw [if_neg hc]
        refine (blockLen_5_4_h t1 d1 nT nD i w hti hdi hii (by omega) q1 q2 q3 h1 h2 h3).mono fun e w' ⟨he, hw⟩ => ⟨?_, hw⟩
        rw [he]; exact ret_two (by omega) (by omega)
  · rcases (show g2 = 0 ∨ g2 = 1 ∨ g2 = 2 ∨ g2 = 3 ∨ g2 = 4 ∨ g2 = 5 by omega) with rfl | rfl | rfl | rfl | rfl | rfl
    · have hc : (i : Int) < 6 := by omega
      rw [if_pos (by omega)]
      refine (blockLen_6_0_l t1 d1 nT nD i w hti hdi hii hc q1 q2 q3 h1 h2 h3).mono fun e w' ⟨he, hw⟩ => ⟨?_, hw⟩
      rw [he]; exact ret_two rfl (by omega)
    · by_cases hc : i < 6 - 1
      · rw [if_pos hc]
        refine (blockLen_6_1_l t1 d1 nT nD i w hti hdi hii (by omega) q1 q2 q3 h1 h2 h3).mono fun e w' ⟨he, hw⟩ => ⟨?_, hw⟩
        rw [he]; exact ret_two rfl (by omega)
      · rw [if_neg hc]
        refine (blockLen_6_1_h t1 d1 nT nD i w hti hdi hii (by omega) q1 q2 q3 h1 h2 h3).mono fun e w' ⟨he, hw⟩ => ⟨?_, hw⟩
        rw [he]; exact ret_two (by omega) (by omega)
    · by_cases hc : i < 6 - 2
      · rw [if_pos hc]
        refine (blockLen_6_2_l t1 d1 nT nD i w hti hdi hii (by omega) q1 q2 q3 h1 h2 h3).mono fun e w' ⟨he, hw⟩ => ⟨?_, hw⟩
        rw [he]; exact ret_two rfl (by omega)
      · rw [if_neg hc]
        refine (blockLen_6_2_h t1 d1 nT nD i w hti hdi hii (by omega) q1 q2 q3 h1 h2 h3).mono fun e w' ⟨he, hw⟩ => ⟨?_, hw⟩
        rw [he]; exact ret_two (by omega) (by omega)
    · by_cases hc : i < 6 - 3
      · rw [if_pos hc]
        refine (blockLen_6_3_l t1 d1 nT nD i w hti hdi hii (by omega) q1 q2 q3 h1 h2 h3).mono fun e w' ⟨he, hw⟩ => ⟨?_, hw⟩
        rw [he]; exact ret_two rfl (by omega)
      · rw [if_neg hc]
        refine (blockLen_6_3_h t1 d1 nT nD i w hti hdi hii (by omega) q1 q2 q3 h1 h2 h3).mono fun e w' ⟨he, hw⟩ => ⟨?_, hw⟩
        rw [he]; exact ret_two (by omega) (by omega)
    · by_cases hc : i < 6 - 4
      · rw [if_pos hc]
        refine (blockLen_6_4_l t1 d1 nT nD i w hti hdi hii (by omega) q1 q2 q3 h1 h2 h3).mono fun e w' ⟨he, hw⟩ => ⟨?_, hw⟩
        rw [he]; exact ret_two rfl (by omega)
      · rw [if_neg hc]
        refine (blockLen_6_4_h t1 d1 nT nD i w hti hdi hii (by omega) q1 q2 q3 h1 h2 h3).mono fun e w' ⟨he, hw⟩ => ⟨?_, hw⟩
        rw [he]; exact ret_two (by omega) (by omega)
    · by_cases hc : i < 6 - 5
      · rw [if_pos hc]
        refine (blockLen_6_5_l t1 d1 nT nD i w hti hdi hii (by omega) q1 q2 q3 h1 h2 h3).mono fun e w' ⟨he, hw⟩ => ⟨?_, hw⟩
        rw [he]; exact ret_two rfl (by omega)
      · rw [if_neg hc]
        refine (blockLen_6_5_h t1 d1 nT nD i w hti hdi hii (by omega) q1 q2 q3 h1 h2 h3).mono fun e w' ⟨he, hw⟩ => ⟨?_, hw⟩
        rw [he]; exact ret_two (by omega) (by omega)
end
end Go.Proofs.YtplpafbkalkchaaGreatDoor
