/- Walks: the modules of a symbol are taken out of its picture. Walks: the pure bits of a picture, and their rows. Walk: a picture is read. -/
import Derived.Test.YtplpafbkalkchaaGreatDoorW49
import Derived.Test.YtplpafbkalkchaaGreatDoorW47
import Derived.Test.YtplpafbkalkchaaGreatDoorW48
namespace Go.Proofs.YtplpafbkalkchaaGreatDoor
open Go Go.RowKit Go.Proofs
set_option linter.all false

section
theorem under167 : (Tryz.prog.underlying 167).isSome = true := by kernel_rfl
theorem cut_run {r : Nat} {n : Int} (h : floatToIntVal .f64 r .i64 = some n) (w : World) : (convert 167 3 (.float .f64 r)).run Tryz.prog w = .ok (.int .i64 n) w :=
  run_convert_float_int w 167 3 .f64 .i64 r n under167 Tryz.underlying3 h
theorem mul_run (m k : Nat) (h : m < 14) (hk : k < 46) : ∃ r, (∀ w, (binOp .mul 167 (.float .f64 (floatOfInt .f64 (k : Int))) (.float .f64 (fl m))).run Tryz.prog w = .ok (.float .f64 r) w) ∧
    (∀ w, (convert 167 3 (.float .f64 r)).run Tryz.prog w = .ok (.int .i64 ((k * m : Nat) : Int)) w) := by
  obtain ⟨r, h1, h2⟩ := fl_mul m k h hk
  exact ⟨r, fun w => run_float_arith w .mul 167 .f64 _ _ _ h1, fun w => cut_run h2 w⟩
set_option maxRecDepth 100000 in
set_option maxHeartbeats 1000000 in
theorem round_c (n : Nat) (hn : n < 46) (w : World) : Calls Tryz.prog 82 #[.float .f64 (fl n)] w fun e w' => e = .returned (.int .i64 (n : Int)) ∧ w = w' := by
  obtain ⟨h0, r, h1, h2⟩ := fl_round n hn
  have hr := cut_run h2
  have ha : ∀ w, (binOp .add 167 (.float .f64 (fl n)) (.float .f64 4602678819172646912)).run Tryz.prog w = .ok (.float .f64 r) w := fun w => run_float_arith w .add 167 .f64 _ _ _ h1
  clear h1 h2
  go_enter Tryz.func82, Tryz.ntmps82
  go_wp2_with fail
  go_ret
  exact ⟨rfl, rfl⟩
set_option maxRecDepth 100000 in
set_option maxHeartbeats 8000000 in
theorem pure_c {w : World} {G C W H rs n lp tp m rs2 : Nat} {ws : List Nat} {M : Nat → Nat → Int} (self : Value) (hG : GM w G C W H rs ws (pix M n lp tp m W)) (hm1 : 1 ≤ m) (hm2 : m ≤ 13) (hn : 21 ≤ n) (hn2 : n < 46)
    (hW : lp + n * m ≤ W) (hH : tp + n * m ≤ H) (hW9 : W ≤ 300) (hH9 : H ≤ 300) (hd : ∀ i, i < 8 → M i i = diag i) (hf0 : M (n - 1) 6 = 1) (hrs2 : (n + 31) / 32 = rs2) :
    Calls Tryz.prog 32 #[self, ptv G] w fun e w' => (∃ G2 C2 ws2, e = .returned (.tuple #[ptv G2, .nilIface]) ∧ GM w' G2 C2 n n rs2 ws2 (within (fun y x => decide (M y x = 1)) n) ∧ w.heap.size ≤ G2 ∧ w.heap.size ≤ C2) ∧ Kept [] w w' := by
  obtain ⟨N, hN⟩ : ∃ N, n * m = N := ⟨_, rfl⟩
  obtain ⟨n1, hn1⟩ : ∃ n1, n - 1 = n1 := ⟨_, rfl⟩
  obtain ⟨pm, hpm⟩ : ∃ pm, n1 * m = pm := ⟨_, rfl⟩
  have hpN : pm + m = N := by rw [← hpm, ← hN, ← Nat.succ_mul]; congr 1; omega
  have h6 : 6 * m + m ≤ N := by rw [← hN, ← Nat.succ_mul]; exact Nat.mul_le_mul_right m (by omega)
  have hw32 := hG.wide
  -- the first dark pixel
  have htl : pix M n lp tp m W tp lp = true := by
    have := pix_at (M := M) (n := n) (tp := tp) (lp := lp) (W := W) (y := 0) (x := 0) (a := 0) (b := 0) hm1 hW (by omega) (by omega) hm1 hm1
    simp only [Nat.zero_mul, Nat.add_zero] at this
    rw [this, hd 0 (by omega)]; decide
  have HTL := Lib.hid (topLeft_c hG (tp := tp) (lp := lp) (by omega) (by omega) htl (fun y x hy hx hc => by
    cases e : pix M n lp tp m W y x with
    | false => rfl
    | true => have := pix_in hm1 e; omega))
  -- the last one
  have hbr : pix M n lp tp m W (tp + (n1 * m + (m - 1))) (lp + (6 * m + (m - 1))) = true := by
    rw [pix_at hm1 hW (by omega) (by omega) (by omega) (by omega), ← hn1, hf0]; decide
  rw [hpm] at hbr
  obtain ⟨bt, hbt⟩ : ∃ bt, tp + (pm + (m - 1)) = bt := ⟨_, rfl⟩
  rw [hbt] at hbr
  obtain ⟨rt, hr1, hr2, hr3, hr4⟩ := greatest (fun x => pix M n lp tp m W bt x) (32 * rs) (lp + (6 * m + (m - 1))) (by omega) hbr
  have hrin := pix_in hm1 hr3
  have HBR := Lib.hid (fun (w1 : World) (h1 : GM w1 G C W H rs ws (pix M n lp tp m W)) => bottomRight_c h1 (bt := bt) (rt := rt) (by omega) hr2 hr3 (fun y x hy hx hc => by
    rcases hc with hc | ⟨rfl, hc⟩
    · cases e : pix M n lp tp m W y x with
      | false => rfl
      | true => have := pix_in hm1 e; omega
    · exact hr4 x hc hx))
  have HMS := Lib.hid (fun (w1 : World) (A : Nat) (hA : Blk w1 A [intc lp, intc tp] 3) (h1 : GM w1 G C W H rs ws (pix M n lp tp m W)) => moduleSize_c self hA h1 hm1 hm2 hn hW hH hW9 hH9 hd)
  rw [hN] at hrin hW hH
  obtain ⟨re, hre⟩ : ∃ re, lp + N - 1 = re := ⟨_, rfl⟩
  obtain ⟨h, hh⟩ : ∃ h, m / 2 = h := ⟨_, rfl⟩
  have hhm : h < m := by omega
  -- the pixels that are looked at
  have HGET := Lib.hid (fun (w1 : World) (h1 : GM w1 G C W H rs ws (pix M n lp tp m W)) (y x : Nat) (hy : y < n) (hx : x < n) =>
    gmGet_c h1 (y := tp + (y * m + h)) (x := lp + (x * m + h)) (b := decide (M y x = 1)) (by have := Nat.mul_le_mul_right m (show y + 1 ≤ n from hy); rw [Nat.succ_mul, hN] at this; omega) (by have := Nat.mul_le_mul_right m (show x + 1 ≤ n from hx); rw [Nat.succ_mul, hN] at this; omega) (pix_at hm1 (by rw [hN]; exact hW) hy hx hhm hhm))
  -- the floats
  have hq1 : ∀ w, (binOp .quo 167 (.float .f64 (floatOfInt .f64 (N : Int))) (.float .f64 (fl m))).run Tryz.prog w = .ok (.float .f64 (fl n)) w := fun w => run_float_arith w .quo 167 .f64 _ _ _ (by rw [← hN]; exact fl_quo m n (by omega) hm1 hn2)
  obtain ⟨rh, hrh1, hrh2⟩ := fl_half m (by omega)
  have hq2 : ∀ w, (binOp .quo 167 (.float .f64 (fl m)) (.float .f64 4611686018427387904)).run Tryz.prog w = .ok (.float .f64 rh) w := fun w => run_float_arith w .quo 167 .f64 _ _ _ hrh1
  have hq3 := cut_run hrh2
  rw [hh] at hq3
  obtain ⟨rm, hq4, hq5⟩ := mul_run m n1 (by omega) (by omega)
  rw [hpm] at hq5
  have HMR := Lib.hid (fun (k : Nat) (hk : k < n) => mul_run m k (by omega) (by omega))
  have HG := Lib.hid hG
  have HN := Lib.hid hN
  have HPN := Lib.hid hpN
  have HRS := Lib.hid hrs2
  have e1 : (re : Int) - lp + 1 = N := by omega
  have e2 : (bt : Int) - tp + 1 = N := by omega
  have e3 : (n : Int) - 1 = n1 := by omega
  have e4 : (bt : Int) - tp = (N : Int) - 1 := by omega
  have e5 : (lp : Int) + ((N : Int) - 1) = re := by omega
  have j1 : (lp : Int) < rt := by omega
  have j2 : (tp : Int) < bt := by omega
  have j3 : (re : Int) < W := by omega
  have q1 : ¬ rt ≤ lp := by omega
  have q2 : ¬ bt ≤ tp := by omega
  have j4 : (W : Int) ≤ 300 := by omega
  have j5 : (H : Int) ≤ 300 := by omega
  have j6 : (bt : Int) < H := by omega
  have j7 : (21 : Int) ≤ n := by omega
  have j8 : (n : Int) < 46 := by omega
  have j9 : (h : Int) < 13 := by omega
  have j10 : (pm : Int) ≤ 300 := by omega
  have j11 : (rt : Int) < W := by omega
  have j12 : (N : Int) ≤ 300 := by omega
  have j13 : (lp : Int) + h + pm ≤ re := by omega
  have j14 : (tp : Int) + h + pm ≤ bt := by omega
  have hfew : rs2 * n ≤ 4000 := Nat.le_trans (Nat.mul_le_mul (show rs2 ≤ 2 by omega) (show n ≤ 46 by omega)) (by omega)
  have hcase : (rt = re ∧ (rt : Int) - lp = (N : Int) - 1) ∨ (((N : Int) - 1 == (rt : Int) - lp) = false) := by
    rcases Nat.lt_or_ge rt re with h9 | h9
    · right; simp; omega
    · left; omega
  clear hG hN hpm hbt hre hh hrs2 hr1 hr2 hr3 hr4 hrin htl hbr hpN h6 hd hf0 hrh1 hrh2 hn1
  have heq : ∀ (A : Nat) (w : World), (binOp .eql 157 (slv A 2 2) (.slice none 0 0)).run Tryz.prog w = .ok (.bool false) w := fun A w => Lib.run_eql_slice_nil w 157 3 (some ⟨A, 0, none⟩) 2 2 0 0 Tryz.underlying157
  go_enter Tryz.func32, Tryz.ntmps32
  go_wp2_with fail
  refine HTL.out.mono ?_
  rintro e w1 ⟨rfl, hA1, k1⟩
  obtain ⟨A, hA⟩ : ∃ A, w.heap.size = A := ⟨_, rfl⟩
  rw [hA] at hA1 ⊢
  have HA := Lib.hid hA
  have HG1 := Lib.hid (HG.out.kept k1 (by simp) (by simp))
  have HA1 := Lib.hid hA1
  have HK1 := Lib.hid k1
  clear hA1 k1 hA
  go_wp2_with fail
  refine (HBR.out w1 HG1.out).mono ?_
  rintro e w2 ⟨rfl, hB1, k2⟩
  obtain ⟨B, hB⟩ : ∃ B, w1.heap.size = B := ⟨_, rfl⟩
  rw [hB] at hB1 ⊢
  have HB := Lib.hid hB
  have HG2 := Lib.hid (HG1.out.kept k2 (by simp) (by simp))
  have hA2 := k2.blk HA1.out (by simp)
  have a0 := hA2.at (i := 0) rfl
  have a1 := hA2.at (i := 1) rfl
  have b0 := hB1.at (i := 0) rfl
  have b1 := hB1.at (i := 1) rfl
  have HA2 := Lib.hid hA2
  have HK2 := Lib.hid (HK1.out.trans0 k2)
  clear hB1 k2 hA2 hB
  go_wp2_with fail
  refine (HMS.out w2 A HA2.out HG2.out).mono ?_
  rintro e wx ⟨rfl, rfl⟩
  go_upto_if 82 with fail
  go_cut [13] from 76 to 99 (fun v wx => v = .int .i64 (re : Int) ∧ w2 = wx)
  case first =>
    rcases hcase with ⟨hrr, hc⟩ | hc
    · have HRR := Lib.hid hrr
      clear hrr
      go_wp2_with fail
      go_meet
      exact ⟨by rw [HRR.out], rfl⟩
    · go_wp2_with fail
      refine (gmWidth_c HG2.out).mono ?_
      rintro e wx ⟨rfl, rfl⟩
      go_wp2_with fail
      go_meet
      exact ⟨rfl, rfl⟩
  case rest =>
    obtain ⟨rfl, rfl⟩ := hcut
    clear hcase
    go_wp2_with fail
    refine (round_c n hn2 w2).mono ?_
    rintro e wx ⟨rfl, rfl⟩
    go_wp2_with fail
    refine (round_c n hn2 w2).mono ?_
    rintro e wx ⟨rfl, rfl⟩
    go_wp2_with fail
    refine (gmNew_c n n rs2 (by omega) (by omega) (by omega) (by omega) HRS.out hfew w2).mono ?_
    rintro e w3 ⟨rfl, hg3, k3⟩
    obtain ⟨S0, hS0⟩ : ∃ s, w2.heap.size = s := ⟨_, rfl⟩
    rw [hS0] at hg3 ⊢
    have HS0 := Lib.hid hS0
    have HG3 := Lib.hid (HG2.out.kept k3 (by simp) (by simp))
    have hCS : C < S0 := by rw [← hS0]; exact HG2.out.ar.lt
    have hGS : G < S0 := by rw [← hS0]; exact HG2.out.st.lt
    have HX := Lib.hid hg3
    have HK3 := Lib.hid k3
    clear hg3 k3 hS0 a0 a1 b0 b1
    go_wp2_with fail
    go_loopw [21] (fun s21 wr => ∃ (i : Nat) (ws : List Nat), i ≤ n ∧ s21 = .int .i64 (i : Int) ∧ GM wr (S0 + 1) S0 n n rs2 ws (part (fun y x => decide (M y x = 1)) n i 0) ∧ Kept [S0] w3 wr) (fun s _ => (n - intOf s).toNat)
    case atStart => exact ⟨0, _, by omega, rfl, by rw [part_start]; exact HX.out, Kept.refl _ _⟩
    case round =>
      obtain ⟨i, ws1, hi, rfl, hg, hk⟩ := hrel
      have HX1 := Lib.hid hg
      have HK1' := Lib.hid hk
      clear hg hk
      by_cases hlt : i < n
      · have ii : (i : Int) < n := by omega
        obtain ⟨wo, rfl⟩ : ∃ wo : World, wo = wr := ⟨_, rfl⟩
        obtain ⟨ri, hri1, hri2⟩ := HMR.out i hlt
        obtain ⟨im, him⟩ : ∃ im, i * m = im := ⟨_, rfl⟩
        rw [him] at hri2
        have HIM := Lib.hid him
        have im9 : im ≤ pm + m := by
          have := Nat.mul_le_mul_right m (show i ≤ n by omega)
          have := HN.out
          have := HPN.out
          omega
        have im9i : (im : Int) ≤ pm + m := by omega
        have m9i : (m : Int) ≤ 13 := by omega
        go_wp2_with fail
        go_loopw [23] (fun s23 wr => ∃ (j : Nat) (ws : List Nat), j ≤ n ∧ s23 = .int .i64 (j : Int) ∧ GM wr (S0 + 1) S0 n n rs2 ws (part (fun y x => decide (M y x = 1)) n i j) ∧ Kept [S0] w3 wr) (fun s _ => (n - intOf s).toNat)
        case atStart => exact ⟨0, ws1, by omega, rfl, HX1.out, HK1'.out⟩
        case round =>
          clear hri1 hri2
          obtain ⟨j, ws2, hj, rfl, hg2, hk2⟩ := hrel
          have HX2 := Lib.hid hg2
          have HK2' := Lib.hid hk2
          clear hg2 hk2
          by_cases hltj : j < n
          · have ij : (j : Int) < n := by omega
            obtain ⟨rj, hrj1, hrj2⟩ := HMR.out j hltj
            obtain ⟨jm, hjm⟩ : ∃ jm, j * m = jm := ⟨_, rfl⟩
            rw [hjm] at hrj2
            have jm9 : jm ≤ pm + m := by
              have := Nat.mul_le_mul_right m (show j ≤ n by omega)
              have := HN.out
              have := HPN.out
              omega
            have jm9i : (jm : Int) ≤ pm + m := by omega
            obtain ⟨b, hb⟩ : ∃ b, decide (M i j = 1) = b := ⟨_, rfl⟩
            have HGR := HG3.out.kept HK2'.out (by simp; omega) (by simp; omega)
            have hget := HGET.out wr HGR i j hlt hltj
            rw [HIM.out, hjm, hb, show ((lp + (jm + h) : Nat) : Int) = (lp : Int) + h + jm by omega, show ((tp + (im + h) : Nat) : Int) = (tp : Int) + h + im by omega] at hget
            have HGT := Lib.hid hget
            have HBV := Lib.hid hb
            clear hget HGR hjm hb
            go_wp2_with fail
            refine HGT.out.mono ?_
            rintro e wx ⟨rfl, rfl⟩
            cases b with
            | true =>
              have HST := Lib.hid (gmSet_c HX2.out hlt (x := j) (by have := HX2.out.wide; omega))
              go_wp2_with fail
              refine HST.out.mono ?_
              rintro e w7 ⟨rfl, hg7, hk7⟩
              rw [part_dark hltj HBV.out] at hg7
              have HG7 := Lib.hid hg7
              have HK7 := Lib.hid (HK2'.out.then hk7)
              clear hg7 hk7 hrj1 hrj2
              go_wp2_with fail
              go_roundw
              case rel => exact ⟨j + 1, _, by omega, by go_num, HG7.out, HK7.out⟩
              case measure => simp [intOf]; omega
            | false =>
              have HG7 : Hid (GM wr (S0 + 1) S0 n n rs2 ws2 (part (fun y x => decide (M y x = 1)) n i (j + 1))) := Lib.hid (by rw [← part_light (f := fun y x => decide (M y x = 1)) HBV.out]; exact HX2.out)
              clear hrj1 hrj2
              go_wp2_with fail
              go_roundw
              case rel => exact ⟨j + 1, ws2, by omega, by go_num, HG7.out, HK2'.out⟩
              case measure => simp [intOf]; omega
          · obtain rfl : j = n := by omega
            have HG7 : Hid (GM wr (S0 + 1) S0 j j rs2 ws2 (part (fun y x => decide (M y x = 1)) j (i + 1) 0)) := Lib.hid (by rw [← part_row]; exact HX2.out)
            go_wp2_with fail
            go_roundw
            case rel => exact ⟨i + 1, ws2, by omega, by go_num, HG7.out, HK2'.out⟩
            case measure => simp [intOf]; omega
      · obtain rfl : i = n := by omega
        go_wp2_with fail
        go_ret2
        have hsz := HK2.out.size
        have hs0 := HS0.out
        exact ⟨⟨S0 + 1, S0, ws1, rfl, HX1.out.congr (fun y x hy hx => part_end hy), by omega, by omega⟩, (HK2.out.trans0 HK3.out).trans HK1'.out (fun z hz hl => by simp at hz; omega)⟩
end

section
set_option maxRecDepth 100000 in
set_option maxHeartbeats 1000000 in
theorem pureBits_c {w : World} {G C W H rs n lp tp m rs2 : Nat} {ws : List Nat} {M : Nat → Nat → Int} (hG : GM w G C W H rs ws (pix M n lp tp m W)) (hm1 : 1 ≤ m) (hm2 : m ≤ 13) (hn : 21 ≤ n) (hn2 : n < 46)
    (hW : lp + n * m ≤ W) (hH : tp + n * m ≤ H) (hW9 : W ≤ 300) (hH9 : H ≤ 300) (hd : ∀ i, i < 8 → M i i = diag i) (hf0 : M (n - 1) 6 = 1) (hrs2 : (n + 31) / 32 = rs2) :
    Calls Tryz.prog 18 #[ptv G] w fun e w' => (∃ G2 C2 ws2, e = .returned (.tuple #[ptv G2, .nilIface]) ∧ GM w' G2 C2 n n rs2 ws2 (within (fun y x => decide (M y x = 1)) n) ∧ w.heap.size ≤ G2 ∧ w.heap.size ≤ C2) ∧ Kept [] w w' := by
  have hk0 : Kept [] w (w.alloc (.cells #[.pointer none] 92)) := (Kept.refl _ _).alloc _
  have hP := Lib.hid (pure_c (ptv w.heap.size) (hG.kept hk0 (by simp) (by simp)) hm1 hm2 hn hn2 hW hH hW9 hH9 hd hf0 hrs2)
  have HK0 := Lib.hid hk0
  clear hk0 hG hd hrs2 hf0
  go_enter Tryz.func18, Tryz.ntmps18
  go_wp2_with fail
  refine hP.out.mono ?_
  rintro e w1 ⟨⟨G2, C2, ws2, rfl, hg, l1, l2⟩, k⟩
  have HG := Lib.hid hg
  have HK := Lib.hid k
  have L1 := Lib.hid l1
  have L2 := Lib.hid l2
  clear hg k l1 l2
  go_wp2_with fail
  go_ret2
  have hs := HK0.out.size
  have h1 := L1.out
  have h2 := L2.out
  exact ⟨⟨G2, C2, ws2, rfl, HG.out, by omega, by omega⟩, HK0.out.trans0 HK.out⟩
set_option maxRecDepth 100000 in
set_option maxHeartbeats 1000000 in
theorem taken_c {w : World} {B C W H rs : Nat} {ws : List Nat} {f : Nat → Nat → Bool} (h : GM w B C W H rs ws f) (hW : W ≤ 400) :
    Calls Tryz.prog 17 #[ptv B, .nilIface] w fun e w' => e = .returned (.tuple #[slv w.heap.size H H, .bool true]) ∧ BR w' w.heap.size H W f ∧ Kept [] w w' := by
  have HC := Lib.hid (rowsOf_c h hW)
  clear h
  go_enter Tryz.func17, Tryz.ntmps17
  go_wp2_with fail
  refine HC.out.mono ?_
  rintro e w1 ⟨rfl, hb, hk⟩
  have HB := Lib.hid hb
  have HK := Lib.hid hk
  clear hb hk
  go_wp2_with fail
  go_ret2
  exact ⟨rfl, HB.out, HK.out⟩
end

section
theorem within_twice (f : Nat → Nat → Bool) (n : Nat) : within (within f n) n = within f n := by
  funext y x
  unfold within
  cases decide (x < n) <;> simp
set_option maxRecDepth 100000 in
set_option maxHeartbeats 4000000 in
theorem qrPure_c {w : World} {W H n lp tp m K t mo e T nB short ls ec rs : Nat} {M : Nat → Nat → Int} {v : Value} {pt : Bool} {RB : List Bool} {xs cs raw : List Nat} {dl : Nat → Nat} {D L : Nat → List Nat}
    (h16 : ∀ w1, Kept [] w w1 → Calls Tryz.prog 16 #[.int .i64 (W : Int), .int .i64 (H : Int), v, .bool pt] w1 fun e w' => (∃ G C ws, e = .returned (ptv G) ∧ GM w' G C W H rs ws (pix M n lp tp m W)) ∧ Kept [] w1 w')
    (hm1 : 1 ≤ m) (hm2 : m ≤ 13) (hW : lp + n * m ≤ W) (hH : tp + n * m ≤ H) (hW9 : W ≤ 300) (hH9 : H ≤ 300) (hd : ∀ i, i < 8 → M i i = diag i) (hf0 : M (n - 1) 6 = 1)
    (S : Sym (within (fun y x => decide (M y x = 1)) n) n K t mo e T nB short ls ec RB xs cs raw dl D L) :
    Calls Tryz.prog 11 #[.int .i64 (W : Int), .int .i64 (H : Int), v, .bool pt] w fun q w' => (∃ u, q = .returned (.tuple #[u, .bool true]) ∧ ViewOf (textOf cs) u) ∧ Kept [] w w' := by
  have H16 := Lib.hid h16
  have HS := Lib.hid S
  have HD := Lib.hid hd
  have HF0 := Lib.hid hf0
  have HWH := Lib.hid (And.intro hW hH)
  have hb0 := Blk.new w [Value.string ⟨#[]⟩, .slice none 0 0, .slice none 0 0, .string ⟨#[]⟩, .int .i64 0, .int .i64 0, .int .i64 0, .int .i64 0] 40
  have hk0 : Kept [] w (w.alloc (Obj.cells #[Value.string { data := #[] }, Value.slice none 0 0, Value.slice none 0 0, Value.string { data := #[] }, Value.int .i64 0, Value.int .i64 0, Value.int .i64 0, Value.int .i64 0] 40)) := (Kept.refl _ _).alloc _
  clear h16 S hd hf0 hW hH
  go_enter Tryz.func11, Tryz.ntmps11
  go_wp2_with fail
  have HY := Lib.hid hb0
  have HK0 := Lib.hid hk0
  obtain ⟨Y, hY⟩ : ∃ Y, w.heap.size = Y := ⟨_, rfl⟩
  have HWY := Lib.hid hY
  rw [hY] at HY ⊢
  clear hb0 hk0 hY
  generalize (w.alloc (Obj.cells #[Value.string { data := #[] }, Value.slice none 0 0, Value.slice none 0 0, Value.string { data := #[] }, Value.int .i64 0, Value.int .i64 0, Value.int .i64 0, Value.int .i64 0] 40)) = w1 at HY HK0 ⊢
  refine (H16.out w1 HK0.out).mono ?_
  rintro q w2 ⟨⟨G, C, ws, rfl, hg⟩, hk2⟩
  have HG := Lib.hid hg
  have HK2 := Lib.hid hk2
  clear hg hk2 H16
  go_wp2_with fail
  refine (pureBits_c HG.out hm1 hm2 (by have := HS.out.size; omega) (by have := HS.out.size; have := HS.out.ver; omega) HWH.out.1 HWH.out.2 hW9 hH9 HD.out HF0.out rfl).mono ?_
  rintro q w3 ⟨⟨G2, C2, ws2, rfl, hg2, _, _⟩, hk3⟩
  have HG2 := Lib.hid hg2
  have HK3 := Lib.hid (HK2.out.trans0 hk3)
  clear hg2 hk3
  go_wp2_with fail
  refine (taken_c HG2.out (by have := HS.out.size; have := HS.out.ver; omega)).mono ?_
  rintro q w4 ⟨rfl, hbr, hk4⟩
  have HBR := Lib.hid hbr
  have HK4 := Lib.hid (HK3.out.trans0 hk4)
  clear hbr hk4
  go_wp2_with fail
  refine (qrDecode_c HBR.out (by rw [within_twice]; exact HS.out)).mono ?_
  rintro q w5 ⟨⟨u, rfl, hv⟩, hk5⟩
  obtain ⟨p1, n1, c1, p2, n2, c2, z2, x1, x2, x3, x4, rfl⟩ := hv
  have HK5 := Lib.hid (HK4.out.trans0 hk5)
  clear hk5
  have hy5 := HK5.out.blk HY.out (by simp)
  have HY5 := Lib.hid hy5
  have y0 := hy5.at (i := 0) rfl
  have y1 := hy5.at (i := 1) rfl
  have y2 := hy5.at (i := 2) rfl
  have y3 := hy5.at (i := 3) rfl
  have y4 := hy5.at (i := 4) rfl
  have y5 := hy5.at (i := 5) rfl
  have y6 := hy5.at (i := 6) rfl
  have y7 := hy5.at (i := 7) rfl
  have f0 := hy5.free 0
  have f1 := hy5.free 1
  have f2 := hy5.free 2
  have f3 := hy5.free 3
  have f4 := hy5.free 4
  have f5 := hy5.free 5
  have f6 := hy5.free 6
  have f7 := hy5.free 7
  clear hy5
  go_wp2_with fail
  have hb8 : Blk ((((((((w5.setCell { block := Y, off := 0 } (Value.string (textOf cs))).setCell { block := Y, off := 1 } (Value.slice p1 n1 c1)).setCell { block := Y, off := 2 } (Value.slice p2 n2 c2)).setCell { block := Y, off := 3 } (Value.string z2)).setCell { block := Y, off := 4 } (Value.int .i64 x1)).setCell { block := Y, off := 5 } (Value.int .i64 x2)).setCell { block := Y, off := 6 } (Value.int .i64 x3)).setCell { block := Y, off := 7 } (Value.int .i64 x4)) Y [Value.string (textOf cs), Value.slice p1 n1 c1, Value.slice p2 n2 c2, Value.string z2, Value.int .i64 x1, Value.int .i64 x2, Value.int .i64 x3, Value.int .i64 x4] 40 := ((((((((HY5.out.set 0 (Value.string (textOf cs))).set 1 (Value.slice p1 n1 c1)).set 2 (Value.slice p2 n2 c2)).set 3 (Value.string z2)).set 4 (Value.int .i64 x1)).set 5 (Value.int .i64 x2)).set 6 (Value.int .i64 x3)).set 7 (Value.int .i64 x4))
  have hk8 : Kept [] w ((((((((w5.setCell { block := Y, off := 0 } (Value.string (textOf cs))).setCell { block := Y, off := 1 } (Value.slice p1 n1 c1)).setCell { block := Y, off := 2 } (Value.slice p2 n2 c2)).setCell { block := Y, off := 3 } (Value.string z2)).setCell { block := Y, off := 4 } (Value.int .i64 x1)).setCell { block := Y, off := 5 } (Value.int .i64 x2)).setCell { block := Y, off := 6 } (Value.int .i64 x3)).setCell { block := Y, off := 7 } (Value.int .i64 x4)) := by
    have h0 := HK0.out.trans0 HK5.out
    have hy : w.heap.size ≤ Y := by rw [HWY.out]; exact Nat.le_refl _
    exact (((((((h0.setCell (.inr hy) _).setCell (.inr hy) _).setCell (.inr hy) _).setCell (.inr hy) _).setCell (.inr hy) _).setCell (.inr hy) _).setCell (.inr hy) _).setCell (.inr hy) _
  clear y0 y1 y2 y3 y4 y5 y6 y7 f0 f1 f2 f3 f4 f5 f6 f7
  generalize ((((((((w5.setCell { block := Y, off := 0 } (Value.string (textOf cs))).setCell { block := Y, off := 1 } (Value.slice p1 n1 c1)).setCell { block := Y, off := 2 } (Value.slice p2 n2 c2)).setCell { block := Y, off := 3 } (Value.string z2)).setCell { block := Y, off := 4 } (Value.int .i64 x1)).setCell { block := Y, off := 5 } (Value.int .i64 x2)).setCell { block := Y, off := 6 } (Value.int .i64 x3)).setCell { block := Y, off := 7 } (Value.int .i64 x4)) = w8 at hb8 hk8 ⊢
  have y0 := hb8.at (i := 0) rfl
  have y1 := hb8.at (i := 1) rfl
  have y2 := hb8.at (i := 2) rfl
  have y3 := hb8.at (i := 3) rfl
  have y4 := hb8.at (i := 4) rfl
  have y5 := hb8.at (i := 5) rfl
  have y6 := hb8.at (i := 6) rfl
  have y7 := hb8.at (i := 7) rfl
  (try simp only [Exit.inBlock, Exit.then])
  refine bodyPost_ret (v := .tuple #[.agg #[Value.string (textOf cs), Value.slice p1 n1 c1, Value.slice p2 n2 c2, Value.string z2, Value.int .i64 x1, Value.int .i64 x2, Value.int .i64 x3, Value.int .i64 x4], .bool true]) ?_ rfl ⟨⟨_, rfl, p1, n1, c1, p2, n2, c2, z2, x1, x2, x3, x4, rfl⟩, hk8⟩
  rw [results_cell_tmp rfl]
  go_simp
end
end Go.Proofs.YtplpafbkalkchaaGreatDoor
