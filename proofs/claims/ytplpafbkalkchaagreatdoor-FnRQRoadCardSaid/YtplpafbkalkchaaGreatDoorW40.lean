/- Walk: the pattern of functions of a version. Walk: the words of a symbol are read. -/
import Derived.Laws.EntriesVeiled
import Derived.Test.YtplpafbkalkchaaGreatDoorW27
import Derived.Test.YtplpafbkalkchaaGreatDoorW25
import Derived.Test.YtplpafbkalkchaaGreatDoorW28
import Derived.Test.YtplpafbkalkchaaGreatDoorW38
import Derived.Test.YtplpafbkalkchaaGreatDoorW39
namespace Go.Proofs.YtplpafbkalkchaaGreatDoor
open Go Go.RowKit Go.Proofs
set_option linter.all false

section
def skipC (mx x y : Nat) : Bool := (decide (x = 0) && (decide (y = 0) || decide (y = mx - 1))) || (decide (x = mx - 1) && decide (y = 0))
def prow (cs : List Nat) (f : Nat → Nat → Bool) (x : Nat) : Nat → Nat → Nat → Bool
  | 0 => f
  | y + 1 => if skipC cs.length x y then prow cs f x y else reg (prow cs f x y) (cs.getD x 0 - 2) (cs.getD x 0 - 2 + 5) (cs.getD y 0 - 2) (cs.getD y 0 - 2 + 5)
def pall (cs : List Nat) (f : Nat → Nat → Bool) : Nat → Nat → Nat → Bool
  | 0 => f
  | x + 1 => prow cs (pall cs f x) x cs.length
def pat1 (n : Nat) : Nat → Nat → Bool := reg (reg (reg (fun _ _ => false) 0 (0 + 9) 0 (0 + 9)) 0 (0 + 9) (n - 8) (n - 8 + 8)) (n - 8) (n - 8 + 8) 0 (0 + 9)
def pat3 (n : Nat) (f : Nat → Nat → Bool) : Nat → Nat → Bool := reg (reg f 9 (9 + (n - 17)) 6 (6 + 1)) 6 (6 + 1) 9 (9 + (n - 17))
def pat4 (n : Nat) (f : Nat → Nat → Bool) : Nat → Nat → Bool := reg (reg f 0 (0 + 6) (n - 11) (n - 11 + 3)) (n - 11) (n - 11 + 3) 0 (0 + 6)
def cens (K : Nat) : List Nat := (verData (K + 1)).centers
def patK (K : Nat) : Nat → Nat → Bool :=
  if K = 6 then pat4 45 (pat3 45 (pall (cens 6) (pat1 45) 3)) else pat3 (21 + 4 * K) (pall (cens K) (pat1 (21 + 4 * K)) (cens K).length)
theorem patK0 : patK 0 = patOf 0 := by kernel_rfl
theorem patK1 : patK 1 = patOf 1 := by kernel_rfl
theorem patK2 : patK 2 = patOf 2 := by kernel_rfl
theorem patK3 : patK 3 = patOf 3 := by kernel_rfl
theorem patK4 : patK 4 = patOf 4 := by kernel_rfl
theorem patK5 : patK 5 = patOf 5 := by kernel_rfl
theorem patK6 : patK 6 = patOf 6 := by kernel_rfl
theorem patK_eq (K : Nat) (h : K < 7) : patK K = patOf K := by
  match K, h with
  | 0, _ => exact patK0
  | 1, _ => exact patK1
  | 2, _ => exact patK2
  | 3, _ => exact patK3
  | 4, _ => exact patK4
  | 5, _ => exact patK5
  | 6, _ => exact patK6
theorem cens_fit : ∀ K, K < 7 → (cens K).length ≤ 3 ∧ ∀ i, i < (cens K).length → 6 ≤ (cens K).getD i 0 ∧ (cens K).getD i 0 + 3 ≤ 21 + 4 * K := by decide
theorem beq_cast0 (x : Nat) : ((x : Int) == 0) = decide (x = 0) := by rw [Bool.eq_iff_iff, beq_iff_eq, decide_eq_true_iff]; omega
theorem beq_pred {x mx : Nat} (h : 1 ≤ mx) : ((x : Int) == (mx : Int) - 1) = decide (x = mx - 1) := by rw [Bool.eq_iff_iff, beq_iff_eq, decide_eq_true_iff]; omega
set_option maxRecDepth 100000 in
set_option maxHeartbeats 8000000 in
theorem pattern_c {w : World} {V N K n rs : Nat} (hV : Ver w V N (K + 1)) (hK : K < 7) (hn : n = 21 + 4 * K) (hrs : (n + 31) / 32 = rs) :
    Calls Tryz.prog 221 #[ptv V] w fun e w' => (∃ G C ws, e = .returned (.tuple #[ptv G, .nilIface]) ∧ GM w' G C n n rs ws (patOf K) ∧ w.heap.size ≤ G ∧ w.heap.size ≤ C) ∧ Kept [] w w' := by
  obtain ⟨hl3, hce⟩ := cens_fit K hK
  have hpk := patK_eq K hK
  have hcen : Blk w N ((cens K).map intc) 3 := hV.cen
  have v1 : w.cell? ⟨V, 1, none⟩ = some (slv N (cens K).length (cens K).length) := hV.self.at (i := 1) rfl
  have v0 : w.cell? ⟨V, 0, none⟩ = some (intc (K + 1)) := hV.self.at (i := 0) rfl
  obtain ⟨cs, hcs⟩ : ∃ cs, cens K = cs := ⟨_, rfl⟩
  rw [hcs] at hl3 hce hcen v1
  obtain ⟨mx, hmx⟩ : ∃ mx, cs.length = mx := ⟨_, rfl⟩
  rw [hmx] at hl3 hce v1
  have hcell : ∀ i, i < mx → w.cell? ⟨N, i, none⟩ = some (.int .i64 ((cs.getD i 0 : Nat) : Int)) := fun i hi => hcen.at (by
    rw [List.getElem?_map, List.getD_eq_getElem?_getD, List.getElem?_eq_getElem (by omega)]; rfl)
  have HPK : Hid (patOf K = if K = 6 then pat4 45 (pat3 45 (pall cs (pat1 45) 3)) else pat3 n (pall cs (pat1 n) mx)) := Lib.hid (by
    rw [← hpk]; unfold patK
    by_cases h6 : K = 6
    · subst h6; rw [if_pos rfl, if_pos rfl, hcs]
    · rw [if_neg h6, if_neg h6, hcs, hmx, hn])
  have hm : rs * n ≤ 4000 := Nat.le_trans (Nat.mul_le_mul (show rs ≤ 2 by omega) (show n ≤ 46 by omega)) (by omega)
  have HCE := Lib.hid hce
  have HCELL := Lib.hid hcell
  have HV := Lib.hid hV
  have HRS := Lib.hid hrs
  have HNN := Lib.hid hn
  have HMX := Lib.hid hmx
  have HCS := Lib.hid hcs
  have ni : (21 : Int) ≤ n := by omega
  have ni2 : (n : Int) ≤ 45 := by omega
  have n21 : 21 ≤ n := by omega
  have n45 : n ≤ 45 := by omega
  have mi : (mx : Int) ≤ 3 := by omega
  have n8 : (n : Int) - 8 = ((n - 8 : Nat) : Int) := by omega
  have n17 : (n : Int) - 17 = ((n - 17 : Nat) : Int) := by omega
  have n11 : (n : Int) - 11 = ((n - 11 : Nat) : Int) := by omega
  obtain ⟨m8, hm8⟩ : ∃ m, n - 8 = m := ⟨_, rfl⟩
  obtain ⟨m17, hm17⟩ : ∃ m, n - 17 = m := ⟨_, rfl⟩
  obtain ⟨m11, hm11⟩ : ∃ m, n - 11 = m := ⟨_, rfl⟩
  rw [hm8] at n8
  rw [hm17] at n17
  rw [hm11] at n11
  have HM8 := Lib.hid hm8
  have HM17 := Lib.hid hm17
  have HM11 := Lib.hid hm11
  clear hm8 hm17 hm11 hcs hcen hmx hce hcell hV hrs hn hpk
  go_enter Tryz.func221, Tryz.ntmps221
  go_wp2_with fail
  refine (verDim_c HV.out (by omega)).mono ?_
  rintro e wx ⟨rfl, rfl⟩
  rw [show 17 + 4 * (K + 1) = n by have := HNN.out; omega]
  go_wp2_with fail
  refine (gmSquare_c n rs (by omega) (by omega) HRS.out hm w).mono ?_
  rintro e w1 ⟨rfl, hg, k1⟩
  obtain ⟨S0, hS0⟩ : ∃ s, w.heap.size = s := ⟨_, rfl⟩
  rw [hS0] at hg ⊢
  have HS0 := Lib.hid hS0
  have HG1 := Lib.hid hg
  have HK1 := Lib.hid k1
  clear hg k1 hS0
  go_wp2_with fail
  refine (gmRegion_c HG1.out 0 0 9 9 (by omega) (by omega) (by omega) (by omega)).mono ?_
  rintro e w2 ⟨rfl, ⟨ws2, hg⟩, k2⟩
  have HG2 := Lib.hid hg
  have HK2 := Lib.hid k2
  clear hg k2
  go_wp2_with fail
  refine (gmRegion_c HG2.out m8 0 8 9 (by omega) (by omega) (by have := HM8.out; omega) (by omega)).mono ?_
  rintro e w3 ⟨rfl, ⟨ws3, hg⟩, k3⟩
  have HG3 := Lib.hid hg
  have HK3 := Lib.hid (HK2.out.then k3)
  clear hg k3
  go_wp2_with fail
  refine (gmRegion_c HG3.out 0 m8 9 8 (by omega) (by omega) (by omega) (by have := HM8.out; omega)).mono ?_
  rintro e w4 ⟨rfl, ⟨ws4, hg⟩, k4⟩
  have HG4 : Hid (GM w4 (S0 + 1) S0 n n rs ws4 (pat1 n)) := Lib.hid (by unfold pat1; rw [HM8.out]; exact hg)
  have HK4 := Lib.hid (HK3.out.then k4)
  clear hg k4
  obtain ⟨c, hc⟩ : ∃ c : Nat → Nat, (fun i => cs.getD i 0) = c := ⟨_, rfl⟩
  have hcc : ∀ i, cs.getD i 0 = c i := fun i => congrFun hc i
  obtain ⟨p, hp⟩ : ∃ p : Nat → Nat, (fun i => c i - 2) = p := ⟨_, rfl⟩
  have hpp : ∀ i, c i - 2 = p i := fun i => congrFun hp i
  have HPF : Hid (∀ i, i < mx → 4 ≤ p i ∧ p i + 5 ≤ n ∧ (c i : Int) - 2 = (p i : Int)) := Lib.hid (fun i hi => by
    have h1 := HCE.out i hi
    have h2 := HNN.out
    rw [hcc] at h1
    have h3 := hpp i
    omega)
  have HCC := Lib.hid hcc
  have HPP := Lib.hid hpp
  have hVl := HV.out.self.lt
  have hNl := HV.out.cen.lt
  have hSz := HS0.out
  have HCW : Hid (∀ wr, Kept [S0] w1 wr → (∀ i, i < mx → wr.cell? ⟨N, i, none⟩ = some (.int .i64 ((c i : Nat) : Int))) ∧ wr.cell? ⟨V, 1, none⟩ = some (slv N mx mx) ∧ wr.cell? ⟨V, 0, none⟩ = some (intc (K + 1))) := Lib.hid (fun wr hk => by
    have hs1 := HK1.out.size
    have key : ∀ b o, b < S0 → wr.cell? ⟨b, o, none⟩ = w.cell? ⟨b, o, none⟩ := fun b o hb => (hk.cell (p := ⟨b, o, none⟩) (by show b < _; omega) (by simp; omega)).trans (HK1.out.cell (p := ⟨b, o, none⟩) (by show b < _; omega) (by simp))
    exact ⟨fun i hi => (key N i (by omega)).trans (by rw [HCELL.out i hi, hcc]), (key V 1 (by omega)).trans v1, (key V 0 (by omega)).trans v0⟩)
  have a1 := (HCW.out w4 HK4.out).2.1
  clear hc hcc hp hpp hVl hNl hSz v0 v1
  go_wp2_with fail
  go_loopw [8] (fun s8 wr => ∃ (x : Nat) (ws : List Nat), x ≤ mx ∧ s8 = .int .i64 (x : Int) ∧ GM wr (S0 + 1) S0 n n rs ws (pall cs (pat1 n) x) ∧ Kept [S0] w1 wr) (fun s _ => (mx - intOf s).toNat)
  case atStart => exact ⟨0, ws4, by omega, rfl, HG4.out, HK4.out⟩
  case round =>
    clear a1
    obtain ⟨x, ws5, hx, rfl, hg, hk⟩ := hrel
    have HG5 := Lib.hid hg
    have HK5 := Lib.hid hk
    clear hg hk
    by_cases hltx : x < mx
    · have ix : (x : Int) < mx := by omega
      have b1 := (HCW.out wr HK5.out).2.1
      have bx := (HCW.out wr HK5.out).1 x hltx
      have ex := (HPF.out x hltx).2.2
      have p9 : (p x : Int) ≤ 45 := by have := (HPF.out x hltx).2.1; omega
      obtain ⟨wo, rfl⟩ : ∃ wo : World, wo = wr := ⟨_, rfl⟩
      go_wp2_with fail
      go_loopw [10] (fun s10 wr => ∃ (y : Nat) (ws : List Nat), y ≤ mx ∧ s10 = .int .i64 (y : Int) ∧ GM wr (S0 + 1) S0 n n rs ws (prow cs (pall cs (pat1 n) x) x y) ∧ Kept [S0] w1 wr) (fun s _ => (mx - intOf s).toNat)
      case atStart => exact ⟨0, ws5, by omega, rfl, HG5.out, HK5.out⟩
      case round =>
        clear b1 bx ex
        obtain ⟨y, ws6, hy, rfl, hg, hk⟩ := hrel
        have HG6 := Lib.hid hg
        have HK6 := Lib.hid hk
        clear hg hk HG5 HK5
        by_cases hlty : y < mx
        · have iy : (y : Int) < mx := by omega
          have b1 := (HCW.out wr HK6.out).2.1
          have bx := (HCW.out wr HK6.out).1 x hltx
          have by_ := (HCW.out wr HK6.out).1 y hlty
          have ex := (HPF.out x hltx).2.2
          have ey := (HPF.out y hlty).2.2
          have p9y : (p y : Int) ≤ 45 := by have := (HPF.out y hlty).2.1; omega
          have HSTEP : Hid (prow cs (pall cs (pat1 n) x) x (y + 1) = if skipC mx x y then prow cs (pall cs (pat1 n) x) x y else reg (prow cs (pall cs (pat1 n) x) x y) (p x) (p x + 5) (p y) (p y + 5)) := Lib.hid (by
            show (if skipC cs.length x y then _ else reg _ (cs.getD x 0 - 2) (cs.getD x 0 - 2 + 5) (cs.getD y 0 - 2) (cs.getD y 0 - 2 + 5)) = _
            rw [HMX.out, HCC.out, HCC.out, HPP.out, HPP.out])
          obtain ⟨b1, hb1⟩ : ∃ b, ((x : Int) == 0) = b := ⟨_, rfl⟩
          obtain ⟨b2, hb2⟩ : ∃ b, ((y : Int) == 0) = b := ⟨_, rfl⟩
          obtain ⟨b3, hb3⟩ : ∃ b, ((y : Int) == (mx : Int) - 1) = b := ⟨_, rfl⟩
          obtain ⟨b4, hb4⟩ : ∃ b, ((x : Int) == (mx : Int) - 1) = b := ⟨_, rfl⟩
          have HSK : Hid (skipC mx x y = ((b1 && (b2 || b3)) || (b4 && b2))) := Lib.hid (by
            unfold skipC
            rw [← hb1, ← hb2, ← hb3, ← hb4, beq_cast0, beq_cast0, beq_pred (by omega), beq_pred (by omega)])
          cases b1
          · cases b4
            · go_wp2_with fail
              refine (gmRegion_c HG6.out (p y) (p x) 5 5 (by omega) (by omega) (by have := (HPF.out y hlty).2.1; omega) (by have := (HPF.out x hltx).2.1; omega)).mono ?_
              rintro e w7 ⟨rfl, ⟨ws7, hg7⟩, k7⟩
              have HG7 : Hid (GM w7 (S0 + 1) S0 n n rs ws7 (prow cs (pall cs (pat1 n) x) x (y + 1))) := Lib.hid (by rw [HSTEP.out, HSK.out]; exact hg7)
              have HK7 := Lib.hid (HK6.out.then k7)
              clear hg7 k7
              go_wp2_with fail
              go_roundw
              case rel => exact ⟨y + 1, ws7, by omega, by go_num, HG7.out, HK7.out⟩
              case measure => simp [intOf]; omega
            · cases b2
              · go_wp2_with fail
                refine (gmRegion_c HG6.out (p y) (p x) 5 5 (by omega) (by omega) (by have := (HPF.out y hlty).2.1; omega) (by have := (HPF.out x hltx).2.1; omega)).mono ?_
                rintro e w7 ⟨rfl, ⟨ws7, hg7⟩, k7⟩
                have HG7 : Hid (GM w7 (S0 + 1) S0 n n rs ws7 (prow cs (pall cs (pat1 n) x) x (y + 1))) := Lib.hid (by rw [HSTEP.out, HSK.out]; exact hg7)
                have HK7 := Lib.hid (HK6.out.then k7)
                clear hg7 k7
                go_wp2_with fail
                go_roundw
                case rel => exact ⟨y + 1, ws7, by omega, by go_num, HG7.out, HK7.out⟩
                case measure => simp [intOf]; omega
              · have HG7 : Hid (GM wr (S0 + 1) S0 n n rs ws6 (prow cs (pall cs (pat1 n) x) x (y + 1))) := Lib.hid (by rw [HSTEP.out, HSK.out]; exact HG6.out)
                go_wp2_with fail
                go_roundw
                case rel => exact ⟨y + 1, ws6, by omega, by go_num, HG7.out, HK6.out⟩
                case measure => simp [intOf]; omega
          · cases b2
            · cases b3
              · cases b4
                · go_wp2_with fail
                  refine (gmRegion_c HG6.out (p y) (p x) 5 5 (by omega) (by omega) (by have := (HPF.out y hlty).2.1; omega) (by have := (HPF.out x hltx).2.1; omega)).mono ?_
                  rintro e w7 ⟨rfl, ⟨ws7, hg7⟩, k7⟩
                  have HG7 : Hid (GM w7 (S0 + 1) S0 n n rs ws7 (prow cs (pall cs (pat1 n) x) x (y + 1))) := Lib.hid (by rw [HSTEP.out, HSK.out]; exact hg7)
                  have HK7 := Lib.hid (HK6.out.then k7)
                  clear hg7 k7
                  go_wp2_with fail
                  go_roundw
                  case rel => exact ⟨y + 1, ws7, by omega, by go_num, HG7.out, HK7.out⟩
                  case measure => simp [intOf]; omega
                · go_wp2_with fail
                  refine (gmRegion_c HG6.out (p y) (p x) 5 5 (by omega) (by omega) (by have := (HPF.out y hlty).2.1; omega) (by have := (HPF.out x hltx).2.1; omega)).mono ?_
                  rintro e w7 ⟨rfl, ⟨ws7, hg7⟩, k7⟩
                  have HG7 : Hid (GM w7 (S0 + 1) S0 n n rs ws7 (prow cs (pall cs (pat1 n) x) x (y + 1))) := Lib.hid (by rw [HSTEP.out, HSK.out]; exact hg7)
                  have HK7 := Lib.hid (HK6.out.then k7)
                  clear hg7 k7
                  go_wp2_with fail
                  go_roundw
                  case rel => exact ⟨y + 1, ws7, by omega, by go_num, HG7.out, HK7.out⟩
                  case measure => simp [intOf]; omega
              · have HG7 : Hid (GM wr (S0 + 1) S0 n n rs ws6 (prow cs (pall cs (pat1 n) x) x (y + 1))) := Lib.hid (by rw [HSTEP.out, HSK.out]; exact HG6.out)
                go_wp2_with fail
                go_roundw
                case rel => exact ⟨y + 1, ws6, by omega, by go_num, HG7.out, HK6.out⟩
                case measure => simp [intOf]; omega
            · have HG7 : Hid (GM wr (S0 + 1) S0 n n rs ws6 (prow cs (pall cs (pat1 n) x) x (y + 1))) := Lib.hid (by rw [HSTEP.out, HSK.out]; exact HG6.out)
              go_wp2_with fail
              go_roundw
              case rel => exact ⟨y + 1, ws6, by omega, by go_num, HG7.out, HK6.out⟩
              case measure => simp [intOf]; omega
        · obtain rfl : y = mx := by omega
          have HG7 : Hid (GM wr (S0 + 1) S0 n n rs ws6 (pall cs (pat1 n) (x + 1))) := Lib.hid (by
            show GM wr (S0 + 1) S0 n n rs ws6 (prow cs (pall cs (pat1 n) x) x cs.length)
            rw [HMX.out]; exact HG6.out)
          go_wp2_with fail
          go_roundw
          case rel => exact ⟨x + 1, ws6, by omega, by go_num, HG7.out, HK6.out⟩
          case measure => simp [intOf]; omega
    · obtain rfl : x = mx := by omega
      go_wp2_with fail
      refine (gmRegion_c HG5.out 6 9 1 m17 (by omega) (by have := HM17.out; omega) (by omega) (by have := HM17.out; omega)).mono ?_
      rintro e w7 ⟨rfl, ⟨ws7, hg⟩, k7⟩
      have HG7 := Lib.hid hg
      have HK7 := Lib.hid (HK5.out.then k7)
      clear hg k7
      go_wp2_with fail
      refine (gmRegion_c HG7.out 9 6 m17 1 (by have := HM17.out; omega) (by omega) (by have := HM17.out; omega) (by omega)).mono ?_
      rintro e w8 ⟨rfl, ⟨ws8, hg⟩, k8⟩
      have HG8 : Hid (GM w8 (S0 + 1) S0 n n rs ws8 (pat3 n (pall cs (pat1 n) x))) := Lib.hid (by unfold pat3; rw [HM17.out]; exact hg)
      have HK8 := Lib.hid (HK7.out.then k8)
      clear hg k8
      have v0 := (HCW.out w8 HK8.out).2.2
      by_cases h6 : K = 6
      · subst h6
        obtain rfl : n = 45 := HNN.out
        obtain rfl : m11 = 34 := HM11.out.symm
        have h3 : x = 3 ∨ x ≠ 3 := by omega
        go_wp2_with fail
        refine (gmRegion_c HG8.out 34 0 3 6 (by omega) (by omega) (by omega) (by omega)).mono ?_
        rintro e w9 ⟨rfl, ⟨ws9, hg⟩, k9⟩
        have HG9 := Lib.hid hg
        have HK9 := Lib.hid (HK8.out.then k9)
        clear hg k9
        go_wp2_with fail
        refine (gmRegion_c HG9.out 0 34 6 3 (by omega) (by omega) (by omega) (by omega)).mono ?_
        rintro e w10 ⟨rfl, ⟨ws10, hg⟩, k10⟩
        have HG10 := Lib.hid hg
        have HK10 := Lib.hid (HK9.out.then k10)
        clear hg k10
        go_wp2_with fail
        go_ret2
        have hx3 : x = 3 := by rw [← HMX.out, ← HCS.out]; rfl
        subst hx3
        exact ⟨⟨S0 + 1, S0, ws10, rfl, by rw [HPK.out, if_pos trivial]; exact HG10.out, by have := HS0.out; omega, by have := HS0.out; omega⟩, HK1.out.trans HK10.out (fun z hz hl => by have := HS0.out; simp at hz; omega)⟩
      · have hi6 : ¬ (6 : Int) < (K : Int) + 1 := by omega
        have hi7 : ¬ 6 < K + 1 := by omega
        have hi8 : ((K + 1 : Nat) : Int) ≤ 6 := by omega
        go_wp2_with fail
        go_ret2
        exact ⟨⟨S0 + 1, S0, ws8, rfl, by rw [HPK.out, if_neg h6]; exact HG8.out, by have := HS0.out; omega, by have := HS0.out; omega⟩, HK1.out.trans HK8.out (fun z hz hl => by have := HS0.out; simp at hz; omega)⟩
end

section
theorem Ver.keptT {w w' : World} {V N k : Nat} {S : List Nat} (h : Ver w V N k) (hk : Kept S w w') (hS : ∀ x ∈ S, ∃ us, Blk w x us 151) : Ver w' V N k := by
  refine ⟨h.self.keptT hk hS (by decide), h.cen.keptT hk hS (by decide), h.levs.keptT hk hS (by decide), fun i hi => (h.run i hi).keptT hk hS (by decide), ?_⟩
  first | exact h.lt | exact h.5
theorem Ver.keptU {w w' : World} {V N k : Nat} {S : List Nat} {U : TypeId} (h : Ver w V N k) (hk : Kept S w w') (hS : ∀ x ∈ S, ∃ us, Blk w x us U) (hU : 207 ≠ U ∧ 3 ≠ U ∧ 204 ≠ U ∧ 217 ≠ U) : Ver w' V N k :=
  ⟨h.self.keptT hk hS hU.1, h.cen.keptT hk hS hU.2.1, h.levs.keptT hk hS hU.2.2.1, fun i hi => (h.run i hi).keptT hk hS hU.2.2.2, h.lt⟩
/-- Where the j of the outer loop stands ahead of double column c. -/
def headJ (n c : Nat) : Int := if 6 ≤ n - 1 - 2 * c then (n : Int) - 1 - 2 * c else (n : Int) - 2 - 2 * c
def MaskRead (w : World) (G C n rs x : Nat) (f : Nat → Nat → Bool) (wx : World) : Prop := (∃ ws', GM wx G C n n rs ws' (unm f x n n 0)) ∧ Kept [C] w wx
set_option maxRecDepth 100000 in
set_option maxHeartbeats 8000000 in
theorem readWords_c {w : World} {P G C F K l x n rs T : Nat} {ws : List Nat} {f : Nat → Nat → Bool} {pv : Value} {RB : List Bool} (hP : Blk w P [ptv G, pv, ptv F, .bool false] 312) (hF : FI w F l x) (hG : GM w G C n n rs ws f) (hK : K < 7) (hn : n = 21 + 4 * K) (hx : x < 8) (hPC : P ≠ C)
    (hRV : Calls Tryz.prog 163 #[ptv P] w fun e w' => (∃ V N, e = .returned (.tuple #[ptv V, .nilIface]) ∧ Ver w' V N (K + 1)) ∧ Kept [] w w')
    (hRB : rdL (patOf K) (unm f x n n 0) (zig n (10 + 2 * K)) = RB) (hT : words (K + 1) = T) (hlen : RB.length / 8 = T) (hT9 : T ≤ 300) :
    Calls Tryz.prog 194 #[ptv P] w fun e w' => (∃ A, e = .returned (.tuple #[slv A T T, .nilIface]) ∧ Blk w' A (wordsOf RB T) 5 ∧ w.heap.size ≤ A) ∧ Kept [C] w w' := by
  have HP := Lib.hid hP
  have HF := Lib.hid hF
  have HG := Lib.hid hG
  have HRV := Lib.hid hRV
  have HRB := Lib.hid hRB
  have HT := Lib.hid hT
  have HLEN := Lib.hid hlen
  have HN := Lib.hid hn
  have ni : (n : Int) ≤ 45 := by omega
  have ni2 : (21 : Int) ≤ n := by omega
  have n45 : n ≤ 45 := by omega
  have n21 : 21 ≤ n := by omega
  have xi : (x : Int) < 8 := by omega
  have Ti : (T : Int) ≤ 300 := by omega
  obtain ⟨Cn, hCn⟩ : ∃ Cn, 10 + 2 * K = Cn := ⟨_, rfl⟩
  have hCn2 : n = 2 * Cn + 1 := by omega
  have HCN := Lib.hid hCn
  have HCN2 := Lib.hid hCn2
  clear hP hF hG hRV hRB hT hlen hn hCn hCn2
  go_enter Tryz.func194, Tryz.ntmps194
  go_wp2_with fail
  refine (readFormat2_c HP.out).mono ?_
  rintro e wx ⟨rfl, rfl⟩
  go_wp2_with fail
  refine HRV.out.mono ?_
  rintro e w1 ⟨⟨V, N, rfl, hv⟩, k1⟩
  have HV1 := Lib.hid hv
  have HK1 := Lib.hid k1
  clear hv k1 HRV
  go_wp2_with fail
  refine (maskValues_c w1).mono ?_
  rintro e w2 ⟨rfl, hm, k2⟩
  obtain ⟨Q, hQ⟩ : ∃ Q, w1.heap.size = Q := ⟨_, rfl⟩
  rw [hQ] at hm ⊢
  have HQ := Lib.hid hQ
  have hmx : w2.cell? ⟨Q, x, none⟩ = some (.func (.func (238 + x)) #[] #[]) := hm.at (by unfold maskFns; rw [List.getElem?_map, List.getElem?_range hx]; rfl)
  have HK2 := Lib.hid (HK1.out.trans0 k2)
  have HV2 := Lib.hid (HV1.out.kept k2 (by simp))
  have hf1 := (HK2.out.blk HF.out (by simp)).at (i := 1) rfl
  have HF2 := Lib.hid hf1
  clear hm hQ k2 hf1
  go_wp2_with fail
  refine (fiMask_c HF2.out).mono ?_
  rintro e wx ⟨rfl, rfl⟩
  have hk3 : Kept [] w2 (w2.alloc (.cells #[.func (.func (238 + x)) #[] #[]] 324)) := (Kept.refl _ _).alloc _
  have hb3 := Blk.new w2 [.func (.func (238 + x)) #[] #[]] 324
  have HG3 := Lib.hid ((HG.out.kept HK2.out (by simp) (by simp)).kept hk3 (by simp) (by simp))
  have HV3 := Lib.hid (HV2.out.kept hk3 (by simp))
  have HK3 := Lib.hid (HK2.out.trans0 hk3)
  have HB3 := Lib.hid hb3
  have p0 := ((HK2.out.trans0 hk3).blk HP.out (by simp)).at (i := 0) rfl
  have hz2 := HK2.out.size
  obtain ⟨Z, hZ⟩ : ∃ Z, w2.heap.size = Z := ⟨_, rfl⟩
  rw [hZ] at HB3 hz2
  have HZ := Lib.hid hz2
  clear hk3 hb3 hz2
  go_wp2_with fail
  clear hZ
  generalize (w2.alloc (.cells #[.func (.func (238 + x)) #[] #[]] 324)) = w3 at HG3 HV3 HK3 HB3 ⊢
  refine (gmHeight_c HG3.out).mono ?_
  rintro e wx ⟨rfl, rfl⟩
  clear p0 hmx
  have p0 := (HK3.out.blk HP.out (by simp)).at (i := 0) rfl
  have z0 := HB3.out.at (i := 0) rfl
  go_upto_region 9 with fail
  go_cut [46] from 46 to 52 (fun v wx => Hid (MaskRead w3 G C n rs x f wx))
  case first =>
    go_region_with (go_at_call 202; refine (unmaskAll_c (HG3.out.kept ((Kept.refl [] _).drew) (by simp) (by simp)) (by omega) x hx).mono ?_; rintro e w4 ⟨rfl, hg4, k4⟩)
    all_goals
      go_wp2_with fail
      go_meet
      exact Lib.hid ⟨hg4, ((Kept.refl [C] _).drew).then k4⟩
  case rest =>
    obtain ⟨⟨ws4, hg4⟩, k4⟩ := hcut.out
    have HG4 := Lib.hid hg4
    have HV4 := Lib.hid (HV3.out.keptT k4 (fun z hz => by simp at hz; subst hz; exact ⟨_, HG3.out.ar⟩))
    have HK4 : Hid (Kept [C] w wc) := Lib.hid ((HK3.out.mono (by simp)).then k4)
    clear hcut hg4 k4 p0 z0
    go_wp2_with fail
    refine (pattern_c HV4.out hK HN.out rfl).mono ?_
    rintro e w5 ⟨⟨G2, C2, ws5, rfl, hg5, l5, l6⟩, k5⟩
    have HG5 := Lib.hid hg5
    have HX5 := Lib.hid (HG4.out.kept k5 (by simp) (by simp))
    have HV5 := Lib.hid (HV4.out.kept k5 (by simp))
    have HK5 : Hid (Kept [C] w w5) := Lib.hid (HK4.out.trans0 k5)
    have hCl := HG.out.ar.lt
    have hs4 := HK4.out.size
    have hC2 : Hid (C2 ≠ C) := Lib.hid (by omega)
    clear hg5 k5 l5 l6 hCl hs4
    go_wp2_with fail
    refine (verWords_c HV5.out).mono ?_
    rintro e wx ⟨rfl, rfl⟩
    rw [HT.out]
    have hmk := mk_bytes (T : Int) (T : Int) T T rfl rfl (by omega) (by omega)
    have hbA := Blk.new w5 (List.replicate T (Value.int .u8 0)) 5
    rw [show (List.replicate T (Value.int .u8 0)).toArray = Array.replicate T (Value.int .u8 0) from by simp] at hbA
    have hkA : Kept [] w5 (w5.alloc (.cells (Array.replicate T (.int .u8 0)) 5)) := (Kept.refl _ _).alloc _
    have HX6 := Lib.hid (HX5.out.kept hkA (by simp) (by simp))
    have HG6 := Lib.hid (HG5.out.kept hkA (by simp) (by simp))
    have HP6 := Lib.hid (hkA.blk (HK5.out.blk HP.out (by simpa using hPC)) (by simp))
    have HV6 := Lib.hid (HV5.out.kept hkA (by simp))
    have HK6 := Lib.hid (HK5.out.trans0 hkA)
    obtain ⟨A, hA⟩ : ∃ A, w5.heap.size = A := ⟨_, rfl⟩
    have hAlt : Hid (P < A ∧ G < A ∧ C < A ∧ G2 < A ∧ C2 < A ∧ w.heap.size ≤ A) := Lib.hid (by
      have h1 := (HK5.out.blk HP.out (by simpa using hPC)).lt
      have h2 := HX5.out.st.lt
      have h3 := HX5.out.ar.lt
      have h4 := HG5.out.st.lt
      have h5 := HG5.out.ar.lt
      have h6 := HK5.out.size
      omega)
    rw [hA] at hbA
    have HB6 := Lib.hid hbA
    clear hbA hkA
    go_wp2_with fail
    clear hA hmk
    generalize (w5.alloc (.cells (Array.replicate T (.int .u8 0)) 5)) = w6 at HX6 HG6 HP6 HV6 HK6 HB6 ⊢
    obtain ⟨fu, hfu⟩ : ∃ g, unm f x n n 0 = g := ⟨_, rfl⟩
    obtain ⟨pat, hpat⟩ : ∃ g, patOf K = g := ⟨_, rfl⟩
    have hrbs := HRB.out
    have hx7 := HX6.out
    have hg7 := HG6.out
    rw [hfu] at hrbs hx7
    rw [hpat] at hrbs hg7
    rw [HCN.out] at hrbs
    have HX7 := Lib.hid hx7
    have HG7 := Lib.hid hg7
    have HRB7 := Lib.hid hrbs
    clear hfu hpat hrbs hx7 hg7 HX6 HG6 HG5 HX5 HG4 HV1 HV2 HV3 HV4
    go_loopw [10, 12, 13, 14, 15] (fun s10 s12 s13 s14 s15 wr => ∃ (c o cu b : Nat) (j : Int) (up : Bool) (rb : List Bool), c ≤ Cn ∧ rb = rdL pat fu (seenL n c 0 0) ∧ o = rb.length / 8 ∧ cu = curB rb ∧ b = rb.length % 8 ∧ j = headJ n c ∧ up = decide (c % 2 = 0) ∧
      s10 = .bool up ∧ s12 = .int .i64 (o : Int) ∧ s13 = .int .i64 (cu : Int) ∧ s14 = .int .i64 (b : Int) ∧ s15 = .int .i64 j ∧ Hid (Blk wr A (wordsOf rb T) 5 ∧ Kept [A] w6 wr)) (fun _ _ _ _ s _ => (intOf s + 2).toNat)
    case atStart => exact ⟨0, 0, 0, 0, (n : Int) - 1, true, [], by omega, by rw [seenL_start]; rfl, rfl, rfl, rfl, by unfold headJ; rw [if_pos (by omega)]; omega, rfl, rfl, rfl, rfl, rfl, rfl, Lib.hid ⟨by rw [wordsOf_zero]; exact HB6.out, Kept.refl _ _⟩⟩
    case round =>
      obtain ⟨c, o, cu, b, j, up, rb, hc, hrb, ho, hcu, hb, hj, hup, rfl, rfl, rfl, rfl, rfl, hst⟩ := hrel
      have HRBc := Lib.hid hrb
      have HO := Lib.hid ho
      have HCU := Lib.hid hcu
      have HB := Lib.hid hb
      have HUP := Lib.hid hup
      have o9 : o ≤ T := by
        have h1 : rb.length ≤ RB.length := by
          rw [hrb, ← HRB7.out]
          rcases Nat.lt_or_ge c Cn with h | h
          · exact seen_few pat fu n Cn c 0 0 h (by omega) (by omega)
          · obtain rfl : c = Cn := by omega
            rw [seenL_end]; exact Nat.le_refl _
        rw [ho, ← HLEN.out]; exact Nat.div_le_div_right h1
      clear hrb ho hcu hb hup
      by_cases hlt : c < Cn
      · obtain ⟨X, hX⟩ : ∃ X, colX n c = X := ⟨_, rfl⟩
        have hX2 : X < n ∧ 1 ≤ X := by rw [← hX]; unfold colX; have := HCN2.out; split <;> omega
        have hjX : (j = 6 ∧ (X : Int) = 5) ∨ (j = X ∧ (j == 6) = false) := by
          rw [hj, ← hX]
          have h2 := HCN2.out
          unfold headJ colX
          rcases Nat.lt_trichotomy 6 (n - 1 - 2 * c) with h | h | h
          · right; rw [if_pos (by omega), if_pos h]; constructor
            · omega
            · simp; omega
          · left; rw [if_pos (by omega), if_neg (by omega)]; omega
          · right; rw [if_neg (by omega), if_neg (by omega)]; constructor
            · omega
            · simp; omega
        have j0 : 0 < j := by rcases hjX with h | h <;> omega
        have j9 : j ≤ 45 := by rcases hjX with h | h <;> omega
        have HX := Lib.hid hX
        have HJ := Lib.hid hj
        have HJX := Lib.hid hjX
        obtain ⟨wo, rfl⟩ : ∃ wo : World, wo = wr := ⟨_, rfl⟩
        clear hX hj hjX
        go_upto_if 72 with fail
        go_cut [15] from 71 to 74 (fun v wx => v = .int .i64 (X : Int) ∧ wo = wx)
        case first =>
          rcases HJX.out with ⟨rfl, h5⟩ | ⟨h5, h6⟩
          · have HX5 := Lib.hid h5
            clear h5
            go_wp2_with fail
            go_meet
            exact ⟨by rw [HX5.out], rfl⟩
          · have HX5 := Lib.hid h5
            clear h5
            go_wp2_with fail
            go_meet
            exact ⟨by rw [HX5.out], rfl⟩
        case rest =>
          obtain ⟨rfl, rfl⟩ := hcut
          go_wp2_with fail
          go_loopw [12, 13, 14, 16] (fun s12 s13 s14 s16 wr => ∃ (t o cu b : Nat) (rb : List Bool), t ≤ n ∧ rb = rdL pat fu (seenL n c t 0) ∧ o = rb.length / 8 ∧ cu = curB rb ∧ b = rb.length % 8 ∧
            s12 = .int .i64 (o : Int) ∧ s13 = .int .i64 (cu : Int) ∧ s14 = .int .i64 (b : Int) ∧ s16 = .int .i64 (t : Int) ∧ Hid (Blk wr A (wordsOf rb T) 5 ∧ Kept [A] w6 wr)) (fun _ _ _ s _ => (n - intOf s).toNat)
          case atStart => exact ⟨0, o, cu, b, rb, by omega, HRBc.out, HO.out, HCU.out, HB.out, rfl, rfl, rfl, rfl, hst⟩
          case round =>
            clear hst HRBc HO HCU HB o9
            obtain ⟨t, o, cu, b, rb, ht, hrb, ho, hcu, hb, rfl, rfl, rfl, rfl, hst⟩ := hrel
            have HRBt := Lib.hid hrb
            have HO := Lib.hid ho
            have HCU := Lib.hid hcu
            have HB := Lib.hid hb
            clear hrb ho hcu hb
            by_cases hltt : t < n
            · have ti : (t : Int) < n := by omega
              obtain ⟨Y, hY⟩ : ∃ Y, rowY n c t = Y := ⟨_, rfl⟩
              have hYn : Y < n := by rw [← hY]; unfold rowY; split <;> omega
              have HYu : Hid (Y = if c % 2 = 0 then n - 1 - t else t) := Lib.hid (by rw [← hY]; rfl)
              have HY := Lib.hid hY
              have o9 : o ≤ T := by
                have h1 := seen_few pat fu n Cn c t 0 hlt hltt (by omega)
                rw [HRB7.out, ← HRBt.out] at h1
                rw [HO.out, ← HLEN.out]; exact Nat.div_le_div_right h1
              obtain ⟨wo, rfl⟩ : ∃ wo : World, wo = wr := ⟨_, rfl⟩
              clear hY
              go_upto_if 81 with fail
              go_cut [17] from 80 to 85 (fun v wx => v = .int .i64 (Y : Int) ∧ wo = wx)
              case first =>
                cases up with
                | true =>
                  have hYY : (n : Int) - 1 - (t : Int) = (Y : Int) := by
                    have h1 := HYu.out
                    rw [if_pos (of_decide_eq_true HUP.out.symm)] at h1
                    omega
                  go_wp2_with fail
                  go_meet
                  exact ⟨rfl, rfl⟩
                | false =>
                  have hYY : Hid (t = Y) := Lib.hid (by
                    have h1 := HYu.out
                    rw [if_neg (of_decide_eq_false HUP.out.symm)] at h1
                    exact h1.symm)
                  go_wp2_with fail
                  go_meet
                  exact ⟨by rw [hYY.out], rfl⟩
              case rest =>
                obtain ⟨rfl, rfl⟩ := hcut
                go_wp2_with fail
                go_loopw [12, 13, 14, 18] (fun s12 s13 s14 s18 wr => ∃ (k o cu b : Nat) (rb : List Bool), k ≤ 2 ∧ rb = rdL pat fu (seenL n c t k) ∧ o = rb.length / 8 ∧ cu = curB rb ∧ b = rb.length % 8 ∧
                  s12 = .int .i64 (o : Int) ∧ s13 = .int .i64 (cu : Int) ∧ s14 = .int .i64 (b : Int) ∧ s18 = .int .i64 (k : Int) ∧ Hid (Blk wr A (wordsOf rb T) 5 ∧ Kept [A] w6 wr)) (fun _ _ _ s _ => (2 - intOf s).toNat)
                case atStart => exact ⟨0, o, cu, b, rb, by omega, HRBt.out, HO.out, HCU.out, HB.out, rfl, rfl, rfl, rfl, hst⟩
                case round =>
                  clear hst HRBt HO HCU HB o9
                  obtain ⟨k, o, cu, b, rb, hk, hrb, ho, hcu, hb, rfl, rfl, rfl, rfl, hst⟩ := hrel
                  have HRBk := Lib.hid hrb
                  have HO := Lib.hid ho
                  have HCU := Lib.hid hcu
                  have HB := Lib.hid hb
                  have cu9 : cu < 128 := by rw [hcu]; exact curB_few rb
                  have cui : (cu : Int) < 128 := by omega
                  have b9 : b < 8 := by rw [hb]; exact Nat.mod_lt _ (by decide)
                  have bi : (b : Int) < 8 := by omega
                  clear hrb ho hcu hb
                  by_cases hltk : k < 2
                  · have ki : (k : Int) < 2 := by omega
                    obtain ⟨xk, hxk⟩ : ∃ xk, X - k = xk := ⟨_, rfl⟩
                    have hxi : (X : Int) - (k : Int) = (xk : Int) := by omega
                    have hxn : xk < n := by omega
                    have HNXT : Hid (seenL n c t (k + 1) = seenL n c t k ++ [(xk, Y)]) := Lib.hid (by rw [seenL_next n c t k hltk, HX.out, HY.out, hxk])
                    have HFEW0 : Hid ((rdL pat fu (seenL n c t (k + 1))).length ≤ RB.length) := Lib.hid (by rw [← HRB7.out]; exact seen_few pat fu n Cn c t (k + 1) hlt hltt (by omega))
                    have o9 : o ≤ T := by
                      have h1 := seen_few pat fu n Cn c t k hlt hltt (by omega)
                      rw [HRB7.out, ← HRBk.out] at h1
                      rw [HO.out, ← HLEN.out]; exact Nat.div_le_div_right h1
                    have o9i : (o : Int) ≤ 300 := by omega
                    have hkk := hst.out.2
                    have hblk := hst.out.1
                    obtain ⟨hP, hGl, hCl, hG2l, hC2l, hwl⟩ := hAlt.out
                    have HGX := Lib.hid (HX7.out.kept hkk (by simp; omega) (by simp; omega))
                    have HGP := Lib.hid (HG7.out.kept hkk (by simp; omega) (by simp; omega))
                    have p0 := (hkk.blk HP6.out (by simp; omega)).at (i := 0) rfl
                    clear hxk hP hGl hCl hG2l hC2l hwl
                    cases hpb : pat Y xk with
                    | true =>
                      have HGT := Lib.hid (gmGet_c HGP.out hYn hxn hpb)
                      have HNEXT : Hid (rb = rdL pat fu (seenL n c t (k + 1))) := Lib.hid (by rw [HNXT.out, rdL_skip (p := (xk, Y)) hpb]; exact HRBk.out)
                      clear hpb hblk hkk
                      go_wp2_with fail
                      refine HGT.out.mono ?_
                      rintro e wx ⟨rfl, rfl⟩
                      go_wp2_with fail
                      go_roundw
                      case rel => exact ⟨k + 1, o, cu, b, rb, by omega, HNEXT.out, HO.out, HCU.out, HB.out, rfl, rfl, rfl, by go_num, hst⟩
                      case measure => simp [intOf]; omega
                    | false =>
                      have HGT := Lib.hid (gmGet_c HGP.out hYn hxn hpb)
                      cases hbb : fu Y xk with
                      | true =>
                        have HGB := Lib.hid (gmGet_c HGX.out hYn hxn hbb)
                        have HNEXT : Hid (rb ++ [true] = rdL pat fu (seenL n c t (k + 1))) := Lib.hid (by rw [HNXT.out, rdL_bit (p := (xk, Y)) hpb hbb, ← HRBk.out])
                        have HFEW : Hid (b = 7 → o < T) := Lib.hid (fun h7 => by
                          have h1 := HFEW0.out
                          rw [← HNEXT.out, List.length_append, List.length_singleton] at h1
                          have h2 := HLEN.out
                          have h3 := HO.out
                          have h4 := HB.out
                          omega)
                        clear hpb hbb
                        by_cases h7 : b = 7
                        · have hov := i64_or1 cu (by omega)
                          obtain ⟨v, hv⟩ : ∃ v, 2 * cu + bnum true = v := ⟨_, rfl⟩
                          rw [show 2 * cu + 1 = v from hv] at hov
                          have vi : (v : Int) < 256 := by have := bnum_lt true; omega
                          have HVV := Lib.hid hv
                          clear hv
                          have hoT : o < T := HFEW.out h7
                          have oi : (o : Int) < T := by omega
                          have hc := hblk.at (wordsOf_at rb T o hoT (by rw [HO.out]; exact Nat.le_refl _))
                          have hfr := hblk.free o
                          have HNX := Lib.hid (next_full (rb := rb) true (by rw [← HB.out]; exact h7) T)
                          have HBK := Lib.hid (hblk.set o (.int .u8 (v : Int)))
                          have HKK := Lib.hid (hkk.setCell (p := ⟨A, o, none⟩) (.inl (by simp)) (.int .u8 (v : Int)))
                          have b7 : ((b : Int) + 1 == 8) = true := by simp; omega
                          clear h7 hblk hkk
                          go_wp2_with fail
                          refine HGT.out.mono ?_
                          rintro e wx ⟨rfl, rfl⟩
                          go_wp2_with fail
                          refine HGB.out.mono ?_
                          rintro e wx ⟨rfl, rfl⟩
                          go_wp2_with fail
                          go_roundw
                          case rel => exact ⟨k + 1, o + 1, 0, 0, rb ++ [true], by omega, HNEXT.out, by rw [HNX.out.1, HO.out], HNX.out.2.2.1.symm, HNX.out.2.1.symm, by go_num, rfl, rfl, by go_num, Lib.hid ⟨by rw [HNX.out.2.2.2, ← HO.out, ← HCU.out, HVV.out]; exact HBK.out, HKK.out⟩⟩
                          case measure => simp [intOf]; omega
                        · have hov := i64_or1 cu (by omega)
                          obtain ⟨v, hv⟩ : ∃ v, 2 * cu + bnum true = v := ⟨_, rfl⟩
                          rw [show 2 * cu + 1 = v from hv] at hov
                          have vi : (v : Int) < 256 := by have := bnum_lt true; omega
                          have HVV := Lib.hid hv
                          clear hv
                          have HNX := Lib.hid (next_part (rb := rb) true (by rw [← HB.out]; exact h7) T)
                          have HBK := Lib.hid hblk
                          have HKK := Lib.hid hkk
                          have b7 : ((b : Int) + 1 == 8) = false := by simp; omega
                          clear h7 hblk hkk
                          go_wp2_with fail
                          refine HGT.out.mono ?_
                          rintro e wx ⟨rfl, rfl⟩
                          go_wp2_with fail
                          refine HGB.out.mono ?_
                          rintro e wx ⟨rfl, rfl⟩
                          go_wp2_with fail
                          go_roundw
                          case rel => exact ⟨k + 1, o, v, b + 1, rb ++ [true], by omega, HNEXT.out, by rw [HNX.out.1, HO.out], by rw [HNX.out.2.2.1, ← HCU.out, HVV.out], by rw [HNX.out.2.1, HB.out], rfl, rfl, by go_num, by go_num, Lib.hid ⟨by rw [HNX.out.2.2.2]; exact HBK.out, HKK.out⟩⟩
                          case measure => simp [intOf]; omega
                      | false =>
                        have HGB := Lib.hid (gmGet_c HGX.out hYn hxn hbb)
                        have HNEXT : Hid (rb ++ [false] = rdL pat fu (seenL n c t (k + 1))) := Lib.hid (by rw [HNXT.out, rdL_bit (p := (xk, Y)) hpb hbb, ← HRBk.out])
                        have HFEW : Hid (b = 7 → o < T) := Lib.hid (fun h7 => by
                          have h1 := HFEW0.out
                          rw [← HNEXT.out, List.length_append, List.length_singleton] at h1
                          have h2 := HLEN.out
                          have h3 := HO.out
                          have h4 := HB.out
                          omega)
                        clear hpb hbb
                        by_cases h7 : b = 7
                        · obtain ⟨v, hv⟩ : ∃ v, 2 * cu + bnum false = v := ⟨_, rfl⟩
                          have hov : (cu : Int) * 2 = (v : Int) := by have h0 : bnum false = 0 := rfl; omega
                          have vi : (v : Int) < 256 := by have := bnum_lt false; omega
                          have HVV := Lib.hid hv
                          clear hv
                          have hoT : o < T := HFEW.out h7
                          have oi : (o : Int) < T := by omega
                          have hc := hblk.at (wordsOf_at rb T o hoT (by rw [HO.out]; exact Nat.le_refl _))
                          have hfr := hblk.free o
                          have HNX := Lib.hid (next_full (rb := rb) false (by rw [← HB.out]; exact h7) T)
                          have HBK := Lib.hid (hblk.set o (.int .u8 (v : Int)))
                          have HKK := Lib.hid (hkk.setCell (p := ⟨A, o, none⟩) (.inl (by simp)) (.int .u8 (v : Int)))
                          have b7 : ((b : Int) + 1 == 8) = true := by simp; omega
                          clear h7 hblk hkk
                          go_wp2_with fail
                          refine HGT.out.mono ?_
                          rintro e wx ⟨rfl, rfl⟩
                          go_wp2_with fail
                          refine HGB.out.mono ?_
                          rintro e wx ⟨rfl, rfl⟩
                          go_wp2_with fail
                          go_roundw
                          case rel => exact ⟨k + 1, o + 1, 0, 0, rb ++ [false], by omega, HNEXT.out, by rw [HNX.out.1, HO.out], HNX.out.2.2.1.symm, HNX.out.2.1.symm, by go_num, rfl, rfl, by go_num, Lib.hid ⟨by rw [HNX.out.2.2.2, ← HO.out, ← HCU.out, HVV.out]; exact HBK.out, HKK.out⟩⟩
                          case measure => simp [intOf]; omega
                        · obtain ⟨v, hv⟩ : ∃ v, 2 * cu + bnum false = v := ⟨_, rfl⟩
                          have hov : (cu : Int) * 2 = (v : Int) := by have h0 : bnum false = 0 := rfl; omega
                          have vi : (v : Int) < 256 := by have := bnum_lt false; omega
                          have HVV := Lib.hid hv
                          clear hv
                          have HNX := Lib.hid (next_part (rb := rb) false (by rw [← HB.out]; exact h7) T)
                          have HBK := Lib.hid hblk
                          have HKK := Lib.hid hkk
                          have b7 : ((b : Int) + 1 == 8) = false := by simp; omega
                          clear h7 hblk hkk
                          go_wp2_with fail
                          refine HGT.out.mono ?_
                          rintro e wx ⟨rfl, rfl⟩
                          go_wp2_with fail
                          refine HGB.out.mono ?_
                          rintro e wx ⟨rfl, rfl⟩
                          go_wp2_with fail
                          go_roundw
                          case rel => exact ⟨k + 1, o, v, b + 1, rb ++ [false], by omega, HNEXT.out, by rw [HNX.out.1, HO.out], by rw [HNX.out.2.2.1, ← HCU.out, HVV.out], by rw [HNX.out.2.1, HB.out], rfl, rfl, by go_num, by go_num, Lib.hid ⟨by rw [HNX.out.2.2.2]; exact HBK.out, HKK.out⟩⟩
                          case measure => simp [intOf]; omega
                  · obtain rfl : k = 2 := by omega
                    have HNEXT : Hid (rb = rdL pat fu (seenL n c (t + 1) 0)) := Lib.hid (by rw [← seenL_row]; exact HRBk.out)
                    go_wp2_with fail
                    go_roundw
                    case rel => exact ⟨t + 1, o, cu, b, rb, by omega, HNEXT.out, HO.out, HCU.out, HB.out, rfl, rfl, rfl, by go_num, hst⟩
                    case measure => simp [intOf]; omega
            · obtain rfl : t = n := by omega
              have HNEXT : Hid (rb = rdL pat fu (seenL t (c + 1) 0 0)) := Lib.hid (by rw [← seenL_col]; exact HRBt.out)
              have HJN : Hid ((X : Int) - 2 = headJ t (c + 1)) := Lib.hid (by
                have h1 := HX.out
                have h2 := HCN2.out
                unfold colX at h1
                unfold headJ
                split at h1
                · rw [if_pos (by omega)]; omega
                · rw [if_neg (by omega)]; omega)
              have HUN : Hid ((!up) = decide ((c + 1) % 2 = 0)) := Lib.hid (by
                rw [HUP.out]
                by_cases e : c % 2 = 0
                · rw [decide_eq_true e, decide_eq_false (by omega)]; rfl
                · rw [decide_eq_false e, decide_eq_true (by omega)]; rfl)
              have HXJ : Hid ((X : Int) ≤ j) := Lib.hid (by rcases HJX.out with h | h <;> omega)
              go_wp2_with fail
              go_roundw
              case rel => exact ⟨c + 1, o, cu, b, (X : Int) - 2, !up, rb, by omega, HNEXT.out, HO.out, HCU.out, HB.out, HJN.out, HUN.out, rfl, rfl, rfl, rfl, rfl, hst⟩
              case measure => have := HXJ.out; simp [intOf]; omega
      · obtain rfl : c = Cn := by omega
        have hrbe : rb = RB := by rw [HRBc.out, seenL_end]; exact HRB7.out
        have hoT : o = T := by rw [HO.out, hrbe]; exact HLEN.out
        have hj1 : j = -1 := by
          rw [hj]
          have h2 := HCN2.out
          unfold headJ
          rw [if_neg (by omega)]; omega
        subst hj1
        subst hoT
        have HRE := Lib.hid hrbe
        obtain ⟨hblk, hkk⟩ := hst.out
        have HVW := Lib.hid (HV6.out.keptU (U := 5) hkk (fun z hz => by simp at hz; subst hz; exact ⟨_, HB6.out⟩) (by decide))
        have HBK := Lib.hid hblk
        have HKK := Lib.hid hkk
        clear hrbe hj hblk hkk
        go_wp2_with fail
        refine (verWords_c HVW.out).mono ?_
        rintro e wx ⟨rfl, rfl⟩
        rw [HT.out]
        go_wp2_with fail
        go_ret2
        exact ⟨⟨A, rfl, by rw [← HRE.out]; exact HBK.out, hAlt.out.2.2.2.2.2⟩, HK6.out.trans HKK.out (fun z hz hl => by simp at hz; have := hAlt.out; omega)⟩
end
end Go.Proofs.YtplpafbkalkchaaGreatDoor
