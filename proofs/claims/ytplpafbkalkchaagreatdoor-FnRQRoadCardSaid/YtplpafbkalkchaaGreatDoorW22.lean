/- Walks: the coordinates of the alignment patterns; their laying. Walks: the alignment patterns are laid. Walks: all that stands fast in a symbol. -/
import Derived.Test.YtplpafbkalkchaaGreatDoorW21
import Derived.Test.YtplpafbkalkchaaGreatDoorW13
namespace Go.Proofs.YtplpafbkalkchaaGreatDoor
open Go Go.RowKit Go.Proofs
set_option linter.all false

section
def adjTab : List (List Int) := [
  [-1, -1, -1, -1, -1, -1, -1],
  [6, 18, -1, -1, -1, -1, -1],
  [6, 22, -1, -1, -1, -1, -1],
  [6, 26, -1, -1, -1, -1, -1],
  [6, 30, -1, -1, -1, -1, -1],
  [6, 34, -1, -1, -1, -1, -1],
  [6, 22, 38, -1, -1, -1, -1],
  [6, 24, 42, -1, -1, -1, -1],
  [6, 26, 46, -1, -1, -1, -1],
  [6, 28, 50, -1, -1, -1, -1],
  [6, 30, 54, -1, -1, -1, -1],
  [6, 32, 58, -1, -1, -1, -1],
  [6, 34, 62, -1, -1, -1, -1],
  [6, 26, 46, 66, -1, -1, -1],
  [6, 26, 48, 70, -1, -1, -1],
  [6, 26, 50, 74, -1, -1, -1],
  [6, 30, 54, 78, -1, -1, -1],
  [6, 30, 56, 82, -1, -1, -1],
  [6, 30, 58, 86, -1, -1, -1],
  [6, 34, 62, 90, -1, -1, -1],
  [6, 28, 50, 72, 94, -1, -1],
  [6, 26, 50, 74, 98, -1, -1],
  [6, 30, 54, 78, 102, -1, -1],
  [6, 28, 54, 80, 106, -1, -1],
  [6, 32, 58, 84, 110, -1, -1],
  [6, 30, 58, 86, 114, -1, -1],
  [6, 34, 62, 90, 118, -1, -1],
  [6, 26, 50, 74, 98, 122, -1],
  [6, 30, 54, 78, 102, 126, -1],
  [6, 26, 52, 78, 104, 130, -1],
  [6, 30, 56, 82, 108, 134, -1],
  [6, 34, 60, 86, 112, 138, -1],
  [6, 30, 58, 86, 114, 142, -1],
  [6, 34, 62, 90, 118, 146, -1],
  [6, 30, 54, 78, 102, 126, 150],
  [6, 24, 50, 76, 102, 128, 154],
  [6, 28, 54, 80, 106, 132, 158],
  [6, 32, 58, 84, 110, 136, 162],
  [6, 26, 54, 82, 110, 138, 166],
  [6, 30, 58, 86, 114, 142, 170]]
def adjRow (k : Nat) : List Int := adjTab.getD k []
def adjAt (k j : Nat) : Int := (adjRow k).getD j 0
set_option maxRecDepth 100000 in
set_option maxHeartbeats 4000000 in
theorem adjTable_c (w : World) : Calls Tryz.prog 187 #[] w fun e w' => (∃ A, e = .returned (slv (A + 40) 40 40) ∧ Tab w' A 40 7 (fun y x => .int .i64 (adjAt y x)) 3 157 ∧ w.heap.size ≤ A) ∧ Kept [] w w' := by
  go_enter Tryz.func187, Tryz.ntmps187
  go_wp2
  go_ret
  have h := tab_of w 40 7 (fun y x => .int .i64 (adjAt y x)) 3 157
  exact ⟨⟨w.heap.size, rfl, h.1, Nat.le_refl _⟩, h.2⟩
end

section
def adj1 (M : Nat → Nat → Int) (y x : Int) : Nat → Nat → Int := if 0 ≤ x ∧ M y.toNat x.toNat = -1 then overlay M (y.toNat - 2) (x.toNat - 2) 5 pap else M
/-- The row y, for the first j columns of k's row of coordinates. -/
def adjLine (M : Nat → Nat → Int) (k : Nat) (y : Int) : Nat → Nat → Nat → Int
  | 0 => M
  | j + 1 => adj1 (adjLine M k y j) y (adjAt k j)
def adjAll (M : Nat → Nat → Int) (k : Nat) : Nat → Nat → Nat → Int
  | 0 => M
  | i + 1 => if 0 ≤ adjAt k i then adjLine (adjAll M k i) k (adjAt k i) 7 else adjAll M k i
set_option maxRecDepth 100000 in
set_option maxHeartbeats 4000000 in
theorem adjust_c {w : World} {B R n V N k K : Nat} {M : Nat → Nat → Int} (h : BM w B R n M) (hV : Ver w V N k) (hVR : V < R) (hk : k = K + 1) (hk7 : k ≤ 7) (hn : n ≤ 200)
    (hc : ∀ i, i < 7 → 0 ≤ adjAt K i → 2 ≤ adjAt K i ∧ adjAt K i + 3 ≤ n) (h0 : k = 1 → adjAll M K 7 = M) :
    Calls Tryz.prog 149 #[ptv V, ptv B] w fun e w' => e = .returned (.tuple #[]) ∧ BM w' B R n (adjAll M K 7) ∧ Kept (span (R + 1) n) w w' := by
  have HC := Lib.hid hc; clear hc
  have hK7 : K < 7 := by omega
  have hKi : (k : Int) - 1 = (K : Int) := by omega
  have hki : (1 : Int) ≤ k := by omega
  have HK := Lib.hid hk; clear hk
  have hni : (n : Int) ≤ 200 := by omega
  have hki7 : (k : Int) ≤ 7 := by omega
  have hBs := h.size
  have hlt0 := h.lt
  go_enter Tryz.func149, Tryz.ntmps149
  go_wp2_with fail
  refine (verNumber_c hV).mono ?_
  rintro e w1 ⟨rfl, rfl⟩
  by_cases e1 : k = 1
  · have h2 : (k : Int) < 2 := by omega
    have H0 := Lib.hid (h0 e1); clear h0 e1
    go_wp2_with fail
    refine bodyPost_ret (results_none rfl _ _ _) rfl ?_
    exact ⟨rfl, by rw [H0.out]; exact h, Kept.refl _ _⟩
  clear h0
  have h2 : ¬ (k : Int) < 2 := by have := HK.out; omega
  go_wp2_with fail
  refine (verNumber_c hV).mono ?_
  rintro e w1 ⟨rfl, rfl⟩
  go_wp2_with fail
  refine (adjTable_c w).mono ?_
  rintro e w1 ⟨⟨A, rfl, ht, hA⟩, hka⟩
  have ho := ht.outer.at (rowOf_get _ (by omega : K < 40))
  have hb1 := h.kept hka (by simp)
  have hrow := ht.row K (by omega)
  have HR := Lib.hid hrow
  clear ht hrow
  go_wp2_with fail
  try simp only [hKi]
  go_loopw [22] (fun a wr => ∃ i, i ≤ 7 ∧ a = intv i ∧ BM wr B R n (adjAll M K i) ∧ Kept (span (R + 1) n) w wr ∧ Blk wr (A + K) (rowOf 7 fun x => .int .i64 (adjAt K x)) 3) (fun a _ => 7 - (intOf a).toNat)
  case atStart => exact ⟨0, by omega, rfl, hb1, hka.mono (by simp), HR.out⟩
  case round =>
    obtain ⟨i, hi, rfl, hb, hkp, hrow⟩ := hrel
    have hi9 : (i : Int) ≤ 7 := by omega
    by_cases hlt : i < 7
    · have hlti : (i : Int) < 7 := by omega
      have hv := hrow.at (rowOf_get _ hlt)
      obtain ⟨y, hy⟩ : ∃ y, adjAt K i = y := ⟨_, rfl⟩
      rw [hy] at hv
      have HY := Lib.hid hy; clear hy
      by_cases hy0 : 0 ≤ y
      · have hyb := HC.out i hlt (by rw [HY.out]; exact hy0)
        rw [HY.out] at hyb
        obtain ⟨hy2, hy3⟩ := hyb
        obtain ⟨yn, hyn⟩ : ∃ yn : Nat, y = yn := ⟨y.toNat, by omega⟩
        subst hyn
        have hyn2 : 2 ≤ yn := by omega
        have hyn3 : yn + 3 ≤ n := by omega
        have HA := Lib.hid (show adjAll M K (i + 1) = adjLine (adjAll M K i) K yn 7 by show (if 0 ≤ adjAt K i then _ else _) = _; rw [HY.out, if_pos hy0])
        obtain ⟨wo, hwo⟩ : ∃ wo : World, wo = wr := ⟨_, rfl⟩
        go_wp2_with fail
        go_loopw [30] (fun a wr => ∃ j, j ≤ 7 ∧ a = intv j ∧ BM wr B R n (adjLine (adjAll M K i) K yn j) ∧ Kept (span (R + 1) n) w wr ∧ Blk wr (A + K) (rowOf 7 fun x => .int .i64 (adjAt K x)) 3) (fun a _ => 7 - (intOf a).toNat)
        case atStart => exact ⟨0, by omega, rfl, hb, hkp, hrow⟩
        case round =>
          obtain ⟨j, hj, rfl, hbj, hkj, hrj⟩ := hrel
          have hj9 : (j : Int) ≤ 7 := by omega
          by_cases hjt : j < 7
          · have hv := hrj.at (rowOf_get _ hjt)
            obtain ⟨x, hx⟩ : ∃ x, adjAt K j = x := ⟨_, rfl⟩
            rw [hx] at hv
            have HX := Lib.hid hx; clear hx
            by_cases hx0 : 0 ≤ x
            · have hxb := HC.out j hjt (by rw [HX.out]; exact hx0)
              rw [HX.out] at hxb
              obtain ⟨hx2, hx3⟩ := hxb
              obtain ⟨xn, hxn⟩ : ∃ xn : Nat, x = xn := ⟨x.toNat, by omega⟩
              subst hxn
              have hxn2 : 2 ≤ xn := by omega
              have hxn3 : xn + 3 ≤ n := by omega
              go_wp2_with fail
              refine (mget_c hbj xn yn _ _ rfl rfl (by omega) (by omega) _ rfl).mono ?_
              rintro e w2 ⟨rfl, rfl⟩
              go_wp2_with fail
              by_cases e2 : adjLine (adjAll M K i) K yn j yn xn = -1
              · have HE := Lib.hid (show adjLine (adjAll M K i) K yn (j + 1) = overlay (adjLine (adjAll M K i) K yn j) (yn - 2) (xn - 2) 5 pap by show adj1 _ _ _ = _; unfold adj1; rw [HX.out, if_pos ⟨hx0, e2⟩]; simp)
                refine (isEmptyB _ true (by rw [e2]; rfl) _).mono ?_
                clear e2
                rintro e w3 ⟨rfl, rfl⟩
                go_wp2_with fail
                refine (posAdj_c hbj (xn - 2) (yn - 2) _ _ (by omega) (by omega) (by omega) (by omega) hn).mono ?_
                rintro e w4 ⟨rfl, hb4, hk4⟩
                go_wp2_with fail
                go_roundw
                case rel => exact ⟨j + 1, by omega, by go_num, by rw [HE.out]; exact hb4, hkj.then hk4, hk4.blk hrj (by rw [mem_span]; omega)⟩
                case measure => simp [intOf]; omega
              · have HE := Lib.hid (show adjLine (adjAll M K i) K yn (j + 1) = adjLine (adjAll M K i) K yn j by show adj1 _ _ _ = _; unfold adj1; rw [HX.out, if_neg (by simpa using e2)])
                refine (isEmptyB _ false (by simpa using e2) _).mono ?_
                clear e2
                rintro e w3 ⟨rfl, rfl⟩
                go_wp2_with fail
                go_roundw
                case rel => exact ⟨j + 1, by omega, by go_num, by rw [HE.out]; exact hbj, hkj, hrj⟩
                case measure => simp [intOf]; omega
            · have HE := Lib.hid (show adjLine (adjAll M K i) K yn (j + 1) = adjLine (adjAll M K i) K yn j by show adj1 _ _ _ = _; unfold adj1; rw [HX.out, if_neg (fun h => hx0 h.1)])
              go_wp2_with fail
              go_roundw
              case rel => exact ⟨j + 1, by omega, by go_num, by rw [HE.out]; exact hbj, hkj, hrj⟩
              case measure => simp [intOf]; omega
          · obtain rfl : j = 7 := by omega
            go_wp2_with fail
            go_roundw
            case rel => exact ⟨i + 1, by omega, by go_num, by rw [HA.out]; exact hbj, hkj, hrj⟩
            case measure => simp [intOf]; omega
      · have HA := Lib.hid (show adjAll M K (i + 1) = adjAll M K i by show (if 0 ≤ adjAt K i then _ else _) = _; rw [HY.out, if_neg hy0])
        go_wp2_with fail
        go_roundw
        case rel => exact ⟨i + 1, by omega, by go_num, by rw [HA.out]; exact hb, hkp, hrow⟩
        case measure => simp [intOf]; omega
    · obtain rfl : i = 7 := by omega
      go_wp2_with fail
      go_end0
      exact ⟨rfl, hb, hkp⟩
end

section
def blank : Nat → Nat → Int := fun _ _ => -1
def corners3 (n : Nat) : Nat → Nat → Int := overlay (overlay (overlay blank 0 0 7 pdp) 0 (n - 7) 7 pdp) (n - 7) 0 7 pdp
def corners6 (n : Nat) : Nat → Nat → Int := hfill (hfill (hfill (corners3 n) 7 0 8) 7 (n - 8) 8) (n - 8) 0 8
def corners (n : Nat) : Nat → Nat → Int := vfill (vfill (vfill (corners6 n) 0 7 7) 0 (n - 8) 7) (n - 7) 7 7
theorem vSepEmpty (n : Nat) (h : 20 ≤ n) : (∀ k, k < 7 → corners6 n (0 + k) 7 = -1) ∧ (∀ k, k < 7 → vfill (corners6 n) 0 7 7 (0 + k) (n - 8) = -1) ∧
    (∀ k, k < 7 → vfill (vfill (corners6 n) 0 7 7) 0 (n - 8) 7 (n - 7 + k) 7 = -1) := by
  refine ⟨?_, ?_, ?_⟩ <;>
  · intro k hk
    simp only [corners6, corners3, hfill, vfill, overlay, blank]
    repeat rw [if_neg (by omega)]
theorem hSepEmpty (n : Nat) (h : 20 ≤ n) : (∀ k, k < 8 → corners3 n 7 (0 + k) = -1) ∧ (∀ k, k < 8 → hfill (corners3 n) 7 0 8 7 (n - 8 + k) = -1) ∧
    (∀ k, k < 8 → hfill (hfill (corners3 n) 7 0 8) 7 (n - 8) 8 (n - 8) (0 + k) = -1) := by
  refine ⟨?_, ?_, ?_⟩ <;>
  · intro k hk
    simp only [corners3, hfill, overlay, blank]
    repeat rw [if_neg (by omega)]
set_option maxRecDepth 100000 in
set_option maxHeartbeats 4000000 in
theorem corners_c {w : World} {B R n : Nat} (h : BM w B R n blank) (h20 : 20 ≤ n) (hn : n ≤ 200) :
    Calls Tryz.prog 147 #[ptv B] w fun e w' => e = .returned .nilIface ∧ BM w' B R n (corners n) ∧ Kept (span (R + 1) n) w w' := by
  have hni : (n : Int) ≤ 200 := by omega
  have hn8 : (20 : Int) ≤ n := by omega
  have HH := Lib.hid (hSepEmpty n h20)
  have HV := Lib.hid (vSepEmpty n h20)
  have hlt0 := h.lt
  have hBs := h.size
  go_enter Tryz.func147, Tryz.ntmps147
  go_wp2_with fail
  refine (pdpTable_c w).mono ?_
  rintro e w1 ⟨⟨A, rfl, ht, hA⟩, hk1⟩
  have ho := ht.outer.at (rowOf_get _ (show 0 < 7 by omega))
  have hb1 := h.kept hk1 (by simp)
  clear ht
  go_wp2_with fail
  refine (posDet_c hb1 0 0 _ _ rfl rfl (by omega) (by omega) hn).mono ?_
  rintro e w2 ⟨rfl, hb2, hk2⟩
  go_wp2_with fail
  refine (width_c hb2).mono ?_
  rintro e w0 ⟨rfl, rfl⟩
  go_wp2_with fail
  refine (posDet_c hb2 (n - 7) 0 _ _ (by omega) rfl (by omega) (by omega) hn).mono ?_
  rintro e w3 ⟨rfl, hb3, hk3⟩
  go_wp2_with fail
  refine (width_c hb3).mono ?_
  rintro e w0 ⟨rfl, rfl⟩
  go_wp2_with fail
  refine (posDet_c hb3 0 (n - 7) _ _ rfl (by omega) (by omega) (by omega) hn).mono ?_
  rintro e w4 ⟨rfl, hb4, hk4⟩
  have HH1 := HH.out.1
  have HH2 := HH.out.2.1
  have HH3 := HH.out.2.2
  clear HH
  have HK := Lib.hid (((hk1.mono (T := span (R + 1) n) (by simp)).then hk2).then hk3 |>.then hk4)
  clear hk1 hk2 hk3 hk4 hb1 hb2 hb3
  change BM w4 B R n (corners3 n) at hb4
  go_wp2_with fail
  refine (hSep_c hb4 0 7 _ _ rfl rfl (by omega) (by omega) hn HH1).mono ?_
  rintro e w5 ⟨rfl, hb5, hk5⟩
  go_wp2_with fail
  refine (width_c hb5).mono ?_
  rintro e w0 ⟨rfl, rfl⟩
  go_wp2_with fail
  refine (hSep_c hb5 (n - 8) 7 _ _ (by omega) rfl (by omega) (by omega) hn HH2).mono ?_
  rintro e w6 ⟨rfl, hb6, hk6⟩
  go_wp2_with fail
  refine (width_c hb6).mono ?_
  rintro e w0 ⟨rfl, rfl⟩
  go_wp2_with fail
  refine (hSep_c hb6 0 (n - 8) _ _ rfl (by omega) (by omega) (by omega) hn HH3).mono ?_
  rintro e w7 ⟨rfl, hb7, hk7⟩
  have HK2 := Lib.hid (((HK.out.then hk5).then hk6).then hk7)
  clear hk5 hk6 hk7 hb4 hb5 hb6 HK HH1 HH2 HH3
  change BM w7 B R n (corners6 n) at hb7
  have HH1 := HV.out.1
  have HH2 := HV.out.2.1
  have HH3 := HV.out.2.2
  clear HV
  go_wp2_with fail
  refine (vSep_c hb7 7 0 _ _ rfl rfl (by omega) (by omega) hn HH1).mono ?_
  rintro e w8 ⟨rfl, hb8, hk8⟩
  go_wp2_with fail
  refine (height_c hb8).mono ?_
  rintro e w0 ⟨rfl, rfl⟩
  go_wp2_with fail
  refine (vSep_c hb8 (n - 8) 0 _ _ (by omega) rfl (by omega) (by omega) hn HH2).mono ?_
  rintro e w9 ⟨rfl, hb9, hk9⟩
  go_wp2_with fail
  refine (height_c hb9).mono ?_
  rintro e w0 ⟨rfl, rfl⟩
  go_wp2_with fail
  refine (vSep_c hb9 7 (n - 7) _ _ rfl (by omega) (by omega) (by omega) hn HH3).mono ?_
  rintro e w10 ⟨rfl, hb10, hk10⟩
  go_wp2_with fail
  go_ret
  exact ⟨rfl, hb10, ((HK2.out.then hk8).then hk9).then hk10⟩
def basic (n K : Nat) : Nat → Nat → Int := timeTo (adjAll (darkDot (corners n) n) K 7) (n - 16)
theorem dark_was (n : Nat) (h : 20 ≤ n) : corners n (n - 8) 8 = -1 := by
  simp only [corners, corners6, corners3, hfill, vfill, overlay, blank]
  repeat rw [if_neg (by omega)]
theorem adj_fit : ∀ K, K < 7 → ∀ i, i < 7 → 0 ≤ adjAt K i → 2 ≤ adjAt K i ∧ adjAt K i + 3 ≤ ((21 + 4 * K : Nat) : Int) := by decide +kernel
theorem adj_none (M : Nat → Nat → Int) : adjAll M 0 7 = M := rfl
set_option maxRecDepth 100000 in
set_option maxHeartbeats 4000000 in
theorem basic_c {w : World} {B R n V N k K : Nat} (h : BM w B R n blank) (hV : Ver w V N k) (hVR : V < R) (hk : k = K + 1) (hk7 : k ≤ 7) (hn : n = 21 + 4 * K) :
    Calls Tryz.prog 125 #[ptv V, ptv B] w fun e w' => e = .returned .nilIface ∧ BM w' B R n (basic n K) ∧ Kept (span (R + 1) n) w w' := by
  have hn20 : 20 ≤ n := by omega
  have hn200 : n ≤ 200 := by omega
  have HN := Lib.hid hn; have HK := Lib.hid hk
  have hlt0 := h.lt
  clear hn hk
  go_enter Tryz.func125, Tryz.ntmps125
  go_wp2_with fail
  refine (corners_c h hn20 hn200).mono ?_
  rintro e w1 ⟨rfl, hb1, hk1⟩
  go_wp2_with fail
  refine (darkDot_c hb1 hn20 hn200 (-1) (dark_was n hn20) rfl).mono ?_
  rintro e w2 ⟨rfl, hb2, hk2⟩
  have hk12 := hk1.then hk2
  have hV2 := hV.kept hk12 (by intro x hx; rw [mem_span] at hx; omega)
  go_wp2_with fail
  refine (adjust_c hb2 hV2 hVR HK.out hk7 hn200 (by have := adj_fit K (by have := HK.out; omega); rw [HN.out]; exact this)
    (by intro e; have : K = 0 := by have := HK.out; omega
        subst this; exact adj_none _)).mono ?_
  rintro e w3 ⟨rfl, hb3, hk3⟩
  go_wp2_with fail
  refine (timing_c hb3 hn20 hn200).mono ?_
  rintro e w4 ⟨rfl, hb4, hk4⟩
  go_wp2_with fail
  go_ret
  exact ⟨rfl, hb4, (hk12.then hk3).then hk4⟩
end
end Go.Proofs.YtplpafbkalkchaaGreatDoor
