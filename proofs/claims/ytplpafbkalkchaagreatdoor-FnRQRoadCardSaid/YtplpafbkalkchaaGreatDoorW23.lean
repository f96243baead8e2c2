/- Walks: the bits of format and version are laid. Walks: the bits of the version are laid; a matrix is emptied. Walks: the masks. -/
import Derived.Test.YtplpafbkalkchaaGreatDoorW22
import Derived.Test.YtplpafbkalkchaaGreatDoorW01
namespace Go.Proofs.YtplpafbkalkchaaGreatDoor
open Go Go.RowKit Go.Proofs
set_option linter.all false

section
theorem BM.notin {w : World} {B R n C : Nat} {M : Nat → Nat → Int} {vs : List Value} {T : TypeId} (h : BM w B R n M) (a : Blk w C vs T) (hT : T ≠ 145) : C ∉ span (R + 1) n := by
  intro hx
  rw [mem_span] at hx
  have hr := h.row (C - (R + 1)) (by omega)
  rw [show R + 1 + (C - (R + 1)) = C from by omega] at hr
  exact hT (a.type hr)
theorem BA.apart {w : World} {B R n B2 C2 : Nat} {M : Nat → Nat → Int} {ws : List Nat} {bs : List Bool} (h : BM w B R n M) (a : BA w B2 C2 ws bs) : B2 ∉ span (R + 1) n ∧ C2 ∉ span (R + 1) n :=
  ⟨h.notin a.st (by decide), h.notin a.ar (by decide)⟩
theorem upd_twice (M : Nat → Nat → Int) (y x : Nat) (v : Int) : upd (upd M y x v) y x v = upd M y x v := by
  funext y' x'; unfold upd; split <;> rfl
def tcx (i : Nat) : Nat := [8, 8, 8, 8, 8, 8, 8, 8, 7, 5, 4, 3, 2, 1, 0].getD i 0
def tcy (i : Nat) : Nat := [0, 1, 2, 3, 4, 5, 7, 8, 8, 8, 8, 8, 8, 8, 8].getD i 0
def tcv (y x : Nat) : Value := intv (if x = 0 then tcx y else tcy y)
def bit01 (b : Bool) : Int := if b then 1 else 0
def typeTo (M : Nat → Nat → Int) (n : Nat) (bs : List Bool) : Nat → Nat → Nat → Int
  | 0 => M
  | k + 1 => upd (upd (typeTo M n bs k) (tcy k) (tcx k) (bit01 (bs.getD (14 - k) false))) (if k < 8 then 8 else n - 15 + k) (if k < 8 then n - 1 - k else 8) (bit01 (bs.getD (14 - k) false))
set_option maxRecDepth 100000 in
theorem typeTable_c (w : World) : Calls Tryz.prog 152 #[] w fun e w' => (∃ A, e = .returned (slv (A + 15) 15 15) ∧ Tab w' A 15 2 tcv 3 157 ∧ w.heap.size ≤ A) ∧ Kept [] w w' := by
  go_enter Tryz.func152, Tryz.ntmps152
  go_wp2
  go_ret
  have h := tab_of w 15 2 tcv 3 157
  exact ⟨⟨w.heap.size, rfl, h.1, Nat.le_refl _⟩, h.2⟩
theorem typeBits_len (t : Nat) : (typeBits t).length = 15 := by simp [typeBits, xorBits, vbits]
theorem tc_lt : ∀ i, i < 15 → tcx i < 9 ∧ tcy i < 9 := by decide
set_option maxRecDepth 100000 in
set_option maxHeartbeats 4000000 in
theorem embedType_c {w : World} {B R n : Nat} {M : Nat → Nat → Int} (h : BM w B R n M) (l m : Nat) (hl : l < 4) (hm : m < 8) (hn20 : 20 ≤ n) (hn : n ≤ 200) :
    Calls Tryz.prog 126 #[.int .i64 (l : Int), .int .i64 (m : Int), ptv B] w fun e w' => e = .returned .nilIface ∧ BM w' B R n (typeTo M n (typeBits (l * 8 + m)) 15) ∧ Kept (span (R + 1) n) w w' := by
  have hni : (n : Int) ≤ 200 := by omega
  have hn8 : (20 : Int) ≤ n := by omega
  have hlt0 := h.lt
  have hBs := h.size
  go_enter Tryz.func126, Tryz.ntmps126
  go_wp2_with fail
  refine (NewEmpty_c w).mono ?_
  rintro e w3 ⟨rfl, hb3, hk3, hs3⟩
  have HS3 := Lib.hid hs3; clear hs3
  obtain ⟨N, hN⟩ : ∃ N, w.heap.size = N := ⟨_, rfl⟩
  rw [hN] at hb3 hBs ⊢
  have HN := Lib.hid hN; clear hN
  go_wp2_with fail
  refine (typeInfo_c w3 l m (N + 1) N hl hm hb3).mono ?_
  rintro e w4 ⟨rfl, ⟨C', x, ha⟩, hk4⟩
  have hln := typeBits_len (l * 8 + m)
  obtain ⟨bs, hbs⟩ : ∃ bs, bs = typeBits (l * 8 + m) := ⟨_, rfl⟩
  have HBS := Lib.hid hbs
  rw [← hbs] at ha hln
  clear hbs
  have hb4 : BM w4 B R n M := (h.kept hk3 (by simp)).kept hk4 (by simp; omega)
  have hkk : Kept (span (R + 1) n) w w4 := (hk3.mono (T := span (R + 1) n) (by simp)).trans hk4 (by intro x hx hl; have := HN.out; simp at hx; omega)
  have hln' : (bs.length : Int) = 15 := by omega
  have HL := Lib.hid hln; clear hln
  go_wp2_with fail
  go_loopw [9] (fun a wr => ∃ i, i ≤ 15 ∧ a = intv i ∧ BM wr B R n (typeTo M n bs i) ∧ Kept (span (R + 1) n) w wr ∧ BA wr (N + 1) C' [x] bs) (fun a _ => 15 - (intOf a).toNat)
  case atStart => exact ⟨0, by omega, rfl, hb4, hkk, ha⟩
  case round =>
    obtain ⟨i, hi, rfl, hb, hkp, hab⟩ := hrel
    have hi9 : (i : Int) ≤ 15 := by omega
    by_cases hlt : i < 15
    · go_wp2_with fail
      refine (getSize_c wr (N + 1) C' _ _ hab).mono ?_
      rintro e w1 ⟨rfl, rfl⟩
      rw [hln']
      go_wp2_with fail
      refine (getSize_c wr (N + 1) C' _ _ hab).mono ?_
      rintro e w1 ⟨rfl, rfl⟩
      rw [hln']
      go_wp2_with fail
      refine (get_c wr (N + 1) C' _ _ hab _ (14 - i) (by omega) (by have := HL.out; omega) _ rfl).mono ?_
      rintro e w1 ⟨rfl, rfl⟩
      obtain ⟨b, hbit⟩ : ∃ b, b = bs.getD (14 - i) false := ⟨_, rfl⟩
      have HB := Lib.hid hbit
      rw [← hbit]
      clear hbit
      go_wp2_with fail
      refine (typeTable_c wr).mono ?_
      rintro e w1 ⟨⟨A, rfl, ht, hA⟩, hka⟩
      have ho := ht.outer.at (rowOf_get _ hlt)
      have hr0 : w1.cell? ⟨A + i, 0, none⟩ = some (intv (tcx i)) := (ht.row i hlt).at (rowOf_get _ (by omega))
      have hr1 : w1.cell? ⟨A + i, 1, none⟩ = some (intv (tcy i)) := (ht.row i hlt).at (rowOf_get _ (by omega))
      have hb1 := hb.kept hka (by simp)
      have hk1 := hkp.trans0 hka
      have ha1 := hab.kept hka (by simp) (by simp)
      have hc := tc_lt i hlt
      clear ht hb
      obtain ⟨cx, hcx⟩ : ∃ c, tcx i = c := ⟨_, rfl⟩
      obtain ⟨cy, hcy⟩ : ∃ c, tcy i = c := ⟨_, rfl⟩
      rw [hcx] at hr0 hc
      rw [hcy] at hr1 hc
      have HC := Lib.hid (And.intro hcx hcy)
      clear hcx hcy
      obtain ⟨hc1, hc2⟩ := hc
      go_wp2_with fail
      refine (msetBool_c hb1 cx cy _ _ rfl rfl (by omega) (by omega) b).mono ?_
      rintro e w2 ⟨rfl, hb2, hk2⟩
      have ha2 := ha1.kept hk2 (BA.apart hb1 ha1).1 (BA.apart hb1 ha1).2
      by_cases h8 : i < 8
      · have h8i : (i : Int) < 8 := by omega
        have HT := Lib.hid (show typeTo M n bs (i + 1) = upd (upd (typeTo M n bs i) cy cx (bit01 b)) 8 (n - 1 - i) (bit01 b) by rw [HB.out, ← HC.out.1, ← HC.out.2]; show upd _ _ _ _ = _; rw [if_pos h8, if_pos h8])
        go_wp2_with fail
        refine (width_c hb2).mono ?_
        rintro e w1 ⟨rfl, rfl⟩
        go_wp2_with fail
        refine (msetBool_c hb2 (n - 1 - i) 8 _ _ (by omega) rfl (by omega) (by omega) b).mono ?_
        rintro e w5 ⟨rfl, hb5, hk5⟩
        have ha5 := ha2.kept hk5 (BA.apart hb2 ha2).1 (BA.apart hb2 ha2).2
        go_wp2_with fail
        go_roundw
        case rel => exact ⟨i + 1, by omega, by go_num, by rw [HT.out]; exact hb5, (hk1.then hk2).then hk5, ha5⟩
        case measure => simp [intOf]; omega
      · have h8i : ¬ (i : Int) < 8 := by omega
        have HT := Lib.hid (show typeTo M n bs (i + 1) = upd (upd (typeTo M n bs i) cy cx (bit01 b)) (n - 15 + i) 8 (bit01 b) by rw [HB.out, ← HC.out.1, ← HC.out.2]; show upd _ _ _ _ = _; rw [if_neg h8, if_neg h8])
        go_wp2_with fail
        refine (height_c hb2).mono ?_
        rintro e w1 ⟨rfl, rfl⟩
        go_wp2_with fail
        refine (msetBool_c hb2 8 (n - 15 + i) _ _ rfl (by omega) (by omega) (by omega) b).mono ?_
        rintro e w5 ⟨rfl, hb5, hk5⟩
        have ha5 := ha2.kept hk5 (BA.apart hb2 ha2).1 (BA.apart hb2 ha2).2
        go_wp2_with fail
        refine (msetBool_c hb5 8 (n - 15 + i) _ _ rfl (by omega) (by omega) (by omega) b).mono ?_
        rintro e w6 ⟨rfl, hb6, hk6⟩
        rw [upd_twice] at hb6
        have ha6 := ha5.kept hk6 (BA.apart hb5 ha5).1 (BA.apart hb5 ha5).2
        go_wp2_with fail
        go_roundw
        case rel => exact ⟨i + 1, by omega, by go_num, by rw [HT.out]; exact hb6, ((hk1.then hk2).then hk5).then hk6, ha6⟩
        case measure => simp [intOf]; omega
    · obtain rfl : i = 15 := by omega
      go_wp2_with fail
      refine (getSize_c wr (N + 1) C' _ _ hab).mono ?_
      rintro e w1 ⟨rfl, rfl⟩
      rw [hln']
      go_wp2_with fail
      go_ret
      exact ⟨rfl, by rw [← HBS.out]; exact hb, hkp⟩
end

section
def verTo (M : Nat → Nat → Int) (n : Nat) (bs : List Bool) : Nat → Nat → Nat → Int
  | 0 => M
  | m + 1 => upd (upd (verTo M n bs m) (n - 11 + m % 3) (m / 3) (bit01 (bs.getD (17 - m) false))) (m / 3) (n - 11 + m % 3) (bit01 (bs.getD (17 - m) false))
theorem versionBits7_len : versionBits7.length = 18 := by simp [versionBits7, vbits]
def withVersion (M : Nat → Nat → Int) (n k : Nat) : Nat → Nat → Int := if k < 7 then M else verTo M n versionBits7 18
set_option maxRecDepth 100000 in
set_option maxHeartbeats 4000000 in
theorem embedVersion_c {w : World} {B R n V N k : Nat} {M : Nat → Nat → Int} (h : BM w B R n M) (hV : Ver w V N k) (hVR : V < R) (hk7 : k ≤ 7) (hn20 : 20 ≤ n) (hn : n ≤ 200) :
    Calls Tryz.prog 127 #[ptv V, ptv B] w fun e w' => e = .returned .nilIface ∧ BM w' B R n (withVersion M n k) ∧ Kept (span (R + 1) n) w w' := by
  have hni : (n : Int) ≤ 200 := by omega
  have hn8 : (20 : Int) ≤ n := by omega
  have hlt0 := h.lt
  have hBs := h.size
  have hVs := hV.self.lt
  go_enter Tryz.func127, Tryz.ntmps127
  go_wp2_with fail
  refine (verNumber_c hV).mono ?_
  rintro e w1 ⟨rfl, rfl⟩
  by_cases e7 : k < 7
  · have h7 : (k : Int) < 7 := by omega
    have HW := Lib.hid (show withVersion M n k = M by unfold withVersion; rw [if_pos e7])
    go_wp2_with fail
    go_ret
    exact ⟨rfl, by rw [HW.out]; exact h, Kept.refl _ _⟩
  have HW := Lib.hid (show withVersion M n k = verTo M n versionBits7 18 by unfold withVersion; rw [if_neg e7])
  have h7 : ¬ (k : Int) < 7 := by omega
  obtain rfl : k = 7 := by omega
  go_wp2_with fail
  refine (NewEmpty_c w).mono ?_
  rintro e w3 ⟨rfl, hb3, hk3, hs3⟩
  have HS3 := Lib.hid hs3; clear hs3
  obtain ⟨D, hN⟩ : ∃ D, w.heap.size = D := ⟨_, rfl⟩
  rw [hN] at hb3 hBs hVs ⊢
  have HN := Lib.hid hN; clear hN
  have hV3 := hV.kept hk3 (by simp)
  go_wp2_with fail
  refine (versionInfo7_c w3 V N (D + 1) D hb3 hV3 (by omega) (by omega)).mono ?_
  rintro e w4 ⟨rfl, ⟨C', x, ha⟩, hk4⟩
  have hln := versionBits7_len
  obtain ⟨bs, hbs⟩ : ∃ bs, bs = versionBits7 := ⟨_, rfl⟩
  have HBS := Lib.hid hbs
  rw [← hbs] at ha hln
  clear hbs
  have hb4 : BM w4 B R n M := (h.kept hk3 (by simp)).kept hk4 (by simp; omega)
  have hkk : Kept (span (R + 1) n) w w4 := (hk3.mono (T := span (R + 1) n) (by simp)).trans hk4 (by intro x hx hl; have := HN.out; simp at hx; omega)
  have HL := Lib.hid hln; clear hln
  go_wp2_with fail
  go_loopw [7, 8] (fun s a wr => ∃ i : Nat, i ≤ 6 ∧ s = .int .i64 (17 - 3 * (i : Int)) ∧ a = intv i ∧ BM wr B R n (verTo M n bs (3 * i)) ∧ Kept (span (R + 1) n) w wr ∧ BA wr (D + 1) C' [x] bs) (fun _ a _ => 6 - (intOf a).toNat)
  case atStart => exact ⟨0, by omega, rfl, rfl, hb4, hkk, ha⟩
  case round =>
    obtain ⟨i, hi, rfl, rfl, hb, hkp, hab⟩ := hrel
    have hi9 : (i : Int) ≤ 6 := by omega
    by_cases hlt : i < 6
    · have hlti : (i : Int) < 6 := by omega
      obtain ⟨wo, hwo⟩ : ∃ wo : World, wo = wr := ⟨_, rfl⟩
      go_wp2_with fail
      go_loopw [7, 9] (fun s a wr => ∃ j : Nat, j ≤ 3 ∧ s = .int .i64 (17 - 3 * (i : Int) - (j : Int)) ∧ a = intv j ∧ BM wr B R n (verTo M n bs (3 * i + j)) ∧ Kept (span (R + 1) n) w wr ∧ BA wr (D + 1) C' [x] bs) (fun _ a _ => 3 - (intOf a).toNat)
      case atStart => exact ⟨0, by omega, by simp, rfl, hb, hkp, hab⟩
      case round =>
        obtain ⟨j, hj, rfl, rfl, hbj, hkj, haj⟩ := hrel
        have hj9 : (j : Int) ≤ 3 := by omega
        by_cases hjt : j < 3
        · obtain ⟨m, hm⟩ : ∃ m, 3 * i + j = m := ⟨_, rfl⟩
          rw [hm] at hbj
          have hm18 : m < 18 := by omega
          have hmd : m / 3 = i := by omega
          have hmm : m % 3 = j := by omega
          obtain ⟨b, hbit⟩ : ∃ b, b = bs.getD (17 - m) false := ⟨_, rfl⟩
          have HT := Lib.hid (show verTo M n bs (m + 1) = upd (upd (verTo M n bs m) (n - 11 + j) i (bit01 b)) i (n - 11 + j) (bit01 b) by rw [hbit, ← hmd, ← hmm]; rfl)
          have HM := Lib.hid hm
          have HB := Lib.hid hbit
          clear hm hbit hmd hmm
          go_wp2_with fail
          refine (get_c _ (D + 1) C' _ _ haj _ (17 - m) (by have := HM.out; omega) (by have := HL.out; omega) b HB.out.symm).mono ?_
          rintro e w1 ⟨rfl, rfl⟩
          go_wp2_with fail
          refine (height_c hbj).mono ?_
          rintro e w1 ⟨rfl, rfl⟩
          go_wp2_with fail
          refine (msetBool_c hbj i (n - 11 + j) _ _ rfl (by omega) (by omega) (by omega) b).mono ?_
          rintro e w2 ⟨rfl, hb2, hk2⟩
          have ha2 := haj.kept hk2 (BA.apart hbj haj).1 (BA.apart hbj haj).2
          go_wp2_with fail
          refine (height_c hb2).mono ?_
          rintro e w1 ⟨rfl, rfl⟩
          go_wp2_with fail
          refine (msetBool_c hb2 (n - 11 + j) i _ _ (by omega) rfl (by omega) (by omega) b).mono ?_
          rintro e w5 ⟨rfl, hb5, hk5⟩
          have ha5 := ha2.kept hk5 (BA.apart hb2 ha2).1 (BA.apart hb2 ha2).2
          go_wp2_with fail
          go_roundw
          case rel => exact ⟨j + 1, by omega, by go_num, by go_num, by rw [show 3 * i + (j + 1) = m + 1 from by have := HM.out; omega, HT.out]; exact hb5, (hkj.then hk2).then hk5, ha5⟩
          case measure => simp [intOf]; omega
        · obtain rfl : j = 3 := by omega
          go_wp2_with fail
          go_roundw
          case rel => exact ⟨i + 1, by omega, by go_num, by go_num, hbj, hkj, haj⟩
          case measure => simp [intOf]; omega
    · obtain rfl : i = 6 := by omega
      go_wp2_with fail
      go_ret
      exact ⟨rfl, by rw [HW.out, ← HBS.out]; exact hb, hkp⟩
theorem clear_c {w : World} {B R n : Nat} {M : Nat → Nat → Int} (h : BM w B R n M) (hn : n ≤ 200) :
    Calls Tryz.prog 124 #[ptv B] w fun e w' => e = .returned (.tuple #[]) ∧ BM w' B R n blank ∧ Kept (span (R + 1) n) w w' := by
  go_enter Tryz.func124, Tryz.ntmps124
  go_wp2_with fail
  refine (mclear_c h hn (-1)).mono ?_
  rintro e w1 ⟨rfl, hb, hk⟩
  go_wp2_with fail
  go_end0
  exact ⟨rfl, hb, hk⟩
end

section
/-- Is the cell in the column x, the row y turned by the mask m? -/
def maskBit (m x y : Nat) : Bool :=
  match m with
  | 0 => decide ((y + x) % 2 = 0)
  | 1 => decide (y % 2 = 0)
  | 2 => decide (x % 3 = 0)
  | 3 => decide ((y + x) % 3 = 0)
  | 4 => decide ((y / 2 + x / 3) % 2 = 0)
  | 5 => decide (y * x % 2 + y * x % 3 = 0)
  | 6 => decide ((y * x % 2 + y * x % 3) % 2 = 0)
  | _ => decide ((y * x % 3 + (y + x) % 2) % 2 = 0)
theorem and1 (a : Nat) (h : a ≤ 100000) : bits .and .i64 (a : Int) 1 = ((a % 2 : Nat) : Int) := by
  have := i64_and_nat a 1 (by omega) (by omega)
  rw [show ((1 : Nat) : Int) = 1 from rfl] at this
  rw [this, Nat.and_one_is_mod]
theorem beq_end (a : Int) (P : Prop) [Decidable P] (h : a = 0 ↔ P) : Ending.returned (.tuple #[.bool (a == 0), .nilIface]) = Ending.returned (.tuple #[.bool (decide P), .nilIface]) := by
  have : (a == 0) = decide P := by by_cases e : a = 0 <;> simp [e, ← h]
  rw [this]
set_option maxRecDepth 100000 in
set_option maxHeartbeats 4000000 in
theorem mask_c (m x y : Nat) (hm : m < 8) (hx : x ≤ 200) (hy : y ≤ 200) (w : World) :
    Calls Tryz.prog 156 #[.int .i64 (m : Int), .int .i64 (x : Int), .int .i64 (y : Int)] w fun e w' => e = .returned (.tuple #[.bool (maskBit m x y), .nilIface]) ∧ w = w' := by
  have hxi : (x : Int) ≤ 200 := by omega
  have hyi : (y : Int) ≤ 200 := by omega
  obtain ⟨s, hs⟩ : ∃ s, y + x = s := ⟨_, rfl⟩
  obtain ⟨p, hp⟩ : ∃ p, y * x = p := ⟨_, rfl⟩
  have hp4 : p ≤ 40000 := by rw [← hp]; exact Nat.mul_le_mul hy hx
  have hpi : (y : Int) * (x : Int) = (p : Int) := by rw [← hp, Int.natCast_mul]
  have hsi : (y : Int) + (x : Int) = (s : Int) := by omega
  have a1 := and1 s (by omega)
  have a2 := and1 y (by omega)
  have a3 := and1 (y / 2 + x / 3) (by omega)
  have a4 := and1 p (by omega)
  have a5 := and1 (p % 2 + p % 3) (by omega)
  have a6 := and1 (p % 3 + s % 2) (by omega)
  simp only [Int.natCast_add, Int.natCast_ediv, Int.natCast_emod] at a1 a2 a3 a4 a5 a6
  simp only [Int.cast_ofNat_Int] at a1 a2 a3 a4 a5 a6
  match m, hm with
  | 0, _ =>
    go_enter Tryz.func156, Tryz.ntmps156
    go_wp2_with fail
    go_ret2
    refine ⟨?_, rfl⟩
    simp only [maskBit, hs, hp]
    exact beq_end _ _ (by omega)
  | 1, _ =>
    go_enter Tryz.func156, Tryz.ntmps156
    go_wp2_with fail
    go_ret2
    refine ⟨?_, rfl⟩
    simp only [maskBit, hs, hp]
    exact beq_end _ _ (by omega)
  | 2, _ =>
    go_enter Tryz.func156, Tryz.ntmps156
    go_wp2_with fail
    go_ret2
    refine ⟨?_, rfl⟩
    simp only [maskBit, hs, hp]
    exact beq_end _ _ (by omega)
  | 3, _ =>
    go_enter Tryz.func156, Tryz.ntmps156
    go_wp2_with fail
    go_ret2
    refine ⟨?_, rfl⟩
    simp only [maskBit, hs, hp]
    exact beq_end _ _ (by omega)
  | 4, _ =>
    go_enter Tryz.func156, Tryz.ntmps156
    go_wp2_with fail
    go_ret2
    refine ⟨?_, rfl⟩
    simp only [maskBit, hs, hp]
    exact beq_end _ _ (by omega)
  | 5, _ =>
    go_enter Tryz.func156, Tryz.ntmps156
    go_wp2_with fail
    go_ret2
    refine ⟨?_, rfl⟩
    simp only [maskBit, hs, hp]
    exact beq_end _ _ (by omega)
  | 6, _ =>
    go_enter Tryz.func156, Tryz.ntmps156
    go_wp2_with fail
    go_ret2
    refine ⟨?_, rfl⟩
    simp only [maskBit, hs, hp]
    exact beq_end _ _ (by omega)
  | 7, _ =>
    go_enter Tryz.func156, Tryz.ntmps156
    go_wp2_with fail
    go_ret2
    refine ⟨?_, rfl⟩
    simp only [maskBit, hs, hp]
    exact beq_end _ _ (by omega)
end
end Go.Proofs.YtplpafbkalkchaaGreatDoor
