/- Walks: a parser reads the format, and the version. Walks: a parser reads the version. -/
import Derived.Test.YtplpafbkalkchaaGreatDoorW37
import Derived.Test.YtplpafbkalkchaaGreatDoorW25
namespace Go.Proofs.YtplpafbkalkchaaGreatDoor
open Go Go.RowKit Go.Proofs
set_option linter.all false

section
/-- The number of the first k bits. -/
def tbv (tb : List Bool) (k : Nat) : Nat := bval (tb.take k)
theorem tbv_lt (tb : List Bool) (k : Nat) (h : k ≤ 18) : tbv tb k < 1048576 := bval_small tb k h
theorem copyTb_c {w : World} {P G C n rs : Nat} {ws : List Nat} {f : Nat → Nat → Bool} {pv pf : Value} (hP : Blk w P [ptv G, pv, pf, .bool false] 312) (hG : GM w G C n n rs ws f) (tb : List Bool) (k y x : Nat) (xi yi : Int) (hxi : xi = x) (hyi : yi = y)
    (hy : y < n) (hx : x < n) (hb : f y x = tb.getD k false) (hk : k < tb.length) (h18 : k ≤ 17) :
    Calls Tryz.prog 203 #[ptv P, .int .i64 xi, .int .i64 yi, intc (tbv tb k)] w fun e w' => e = .returned (intc (tbv tb (k + 1))) ∧ w = w' := by
  have h := copyBit_c hP hG y x (tbv tb k) hy hx hb (tbv_lt tb k (by omega))
  have e : 2 * tbv tb k + bnum (tb.getD k false) = tbv tb (k + 1) := bval_next tb k hk
  rw [e] at h
  subst hxi; subst hyi
  exact h
set_option maxRecDepth 100000 in
set_option maxHeartbeats 4000000 in
theorem readFormat_c {w : World} {P G C n rs : Nat} {ws : List Nat} {f : Nat → Nat → Bool} {pv : Value} (hP : Blk w P [ptv G, pv, .pointer none, .bool false] 312) (hG : GM w G C n n rs ws f) (hn : 21 ≤ n) (hn2 : n ≤ 200) (t : Nat) (ht : t < 32)
    (h1 : ∀ i, i < 15 → f (tcy i) (tcx i) = (typeBits t).getD (14 - i) false) (h2 : ∀ i, i < 15 → f (fy2 n i) (fx2 n i) = (typeBits t).getD (14 - i) false) :
    Calls Tryz.prog 164 #[ptv P] w fun e w' => (∃ F, e = .returned (.tuple #[ptv F, .nilIface]) ∧ FI w' F (t / 8) (t % 8) ∧ Blk w' P [ptv G, pv, ptv F, .bool false] 312 ∧ w.heap.size ≤ F) ∧ Kept [P] w w' := by
  have hl : (typeBits t).length = 15 := typeBits_len t
  have hval : bval (typeBits t) = fmtCodes.getD t 0 := fmt_val t ht
  obtain ⟨tb, htb⟩ : ∃ tb, typeBits t = tb := ⟨_, rfl⟩
  rw [htb] at hl hval h1 h2
  obtain ⟨c, hc⟩ : ∃ c, fmtCodes.getD t 0 = c := ⟨_, rfl⟩
  have hc15 : tbv tb 15 = c := by unfold tbv; rw [List.take_of_length_le (by omega), hval, hc]
  have a1 : ∀ k, k < 6 → f 8 k = tb.getD k false := fun k hk => by
    have e : tcy (14 - k) = 8 ∧ tcx (14 - k) = k := (show ∀ k, k < 6 → tcy (14 - k) = 8 ∧ tcx (14 - k) = k by decide) k hk
    have := h1 (14 - k) (by omega)
    rw [e.1, e.2, show 14 - (14 - k) = k by omega] at this
    exact this
  have a2 : f 8 7 = tb.getD 6 false := h1 8 (by omega)
  have a3 : f 8 8 = tb.getD 7 false := h1 7 (by omega)
  have a4 : f 7 8 = tb.getD 8 false := h1 6 (by omega)
  have a5 : ∀ j, j < 6 → f j 8 = tb.getD (14 - j) false := fun j hj => by
    have e : tcy j = j ∧ tcx j = 8 := (show ∀ k, k < 6 → tcy k = k ∧ tcx k = 8 by decide) j hj
    have := h1 j (by omega)
    rw [e.1, e.2] at this
    exact this
  have a6 : ∀ k, k < 7 → f (n - 1 - k) 8 = tb.getD k false := fun k hk => by
    have := h2 (14 - k) (by omega)
    rw [show fy2 n (14 - k) = n - 1 - k by unfold fy2; rw [if_neg (by omega)]; omega, show fx2 n (14 - k) = 8 by unfold fx2; rw [if_neg (by omega)], show 14 - (14 - k) = k by omega] at this
    exact this
  have a7 : ∀ k, k < 8 → f 8 (n - 8 + k) = tb.getD (7 + k) false := fun k hk => by
    have := h2 (7 - k) (by omega)
    rw [show fy2 n (7 - k) = 8 by unfold fy2; rw [if_pos (by omega)], show fx2 n (7 - k) = n - 8 + k by unfold fx2; rw [if_pos (by omega)]; omega, show 14 - (7 - k) = 7 + k by omega] at this
    exact this
  have hci : (c : Int) < 32768 := by have := codes_lt t ht; omega
  have ni : (21 : Int) ≤ n := by omega
  have ni2 : (n : Int) ≤ 200 := by omega
  have c0 := hP.at (i := 0) rfl
  have c2 := hP.at (i := 2) rfl
  have f2 := hP.free 2
  have HP := Lib.hid hP
  have HG := Lib.hid hG
  have HL := Lib.hid hl
  have A1 := Lib.hid a1
  have A2 := Lib.hid a2
  have A3 := Lib.hid a3
  have A4 := Lib.hid a4
  have A5 := Lib.hid a5
  have A6 := Lib.hid a6
  have A7 := Lib.hid a7
  have HC := Lib.hid hc
  have H15 := Lib.hid hc15
  clear hP hG hl hval htb h1 h2 a1 a2 a3 a4 a5 a6 a7 hc hc15
  go_enter Tryz.func164, Tryz.ntmps164
  go_wp2_with fail
  go_loop [4, 5] (fun s4 s5 => ∃ k : Nat, k ≤ 6 ∧ s4 = intc (tbv tb k) ∧ s5 = .int .i64 (k : Int)) (fun _ s => (6 - intOf s).toNat)
  case atStart => exact ⟨0, by omega, rfl, rfl⟩
  case round =>
    obtain ⟨k, hk, rfl, rfl⟩ := hrel
    by_cases hlt : k < 6
    · have ki : (k : Int) < 6 := by omega
      go_wp2_with fail
      refine (copyTb_c HP.out HG.out tb k 8 k _ _ rfl rfl (by omega) (by omega) (A1.out k hlt) (by rw [HL.out]; omega) (by omega)).mono ?_
      rintro e wx ⟨rfl, rfl⟩
      go_wp2_with fail
      go_round
      case rel => exact ⟨k + 1, by omega, rfl, by go_num⟩
      case measure => simp [intOf]; omega
    · obtain rfl : k = 6 := by omega
      go_wp2_with fail
      refine (copyTb_c HP.out HG.out tb 6 8 7 _ _ rfl rfl (by omega) (by omega) A2.out (by rw [HL.out]; omega) (by omega)).mono ?_
      rintro e wx ⟨rfl, rfl⟩
      go_wp2_with fail
      refine (copyTb_c HP.out HG.out tb 7 8 8 _ _ rfl rfl (by omega) (by omega) A3.out (by rw [HL.out]; omega) (by omega)).mono ?_
      rintro e wx ⟨rfl, rfl⟩
      go_wp2_with fail
      refine (copyTb_c HP.out HG.out tb 8 7 8 _ _ rfl rfl (by omega) (by omega) A4.out (by rw [HL.out]; omega) (by omega)).mono ?_
      rintro e wx ⟨rfl, rfl⟩
      go_wp2_with fail
      go_loop [4, 6] (fun s4 s6 => ∃ (j : Int) (v : Nat), -1 ≤ j ∧ j ≤ 5 ∧ v = tbv tb (14 - j).toNat ∧ s4 = intc v ∧ s6 = .int .i64 j) (fun _ s => (intOf s + 1).toNat)
      case atStart => exact ⟨5, _, by omega, by omega, rfl, rfl, rfl⟩
      case round =>
        obtain ⟨j, v, hj1, hj2, hv, rfl, rfl⟩ := hrel
        have HV := Lib.hid hv
        clear hv
        by_cases hlt : 0 ≤ j
        · obtain ⟨k, hk⟩ : ∃ k : Nat, j.toNat = k := ⟨_, rfl⟩
          have HCB : Hid (Calls Tryz.prog 203 #[ptv P, .int .i64 8, .int .i64 j, intc v] w fun e w' => e = .returned (intc (tbv tb (14 - k + 1))) ∧ w = w') := Lib.hid (by
            rw [HV.out, show (14 - j).toNat = 14 - k by omega]
            exact copyTb_c HP.out HG.out tb (14 - k) k 8 _ _ rfl (by omega) (by omega) (by omega) (A5.out k (by omega)) (by rw [HL.out]; omega) (by omega))
          have HN : Hid (tbv tb (14 - k + 1) = tbv tb (14 - (j - 1)).toNat) := Lib.hid (by congr 1; omega)
          clear hk
          go_wp2_with fail
          refine HCB.out.mono ?_
          rintro e wx ⟨rfl, rfl⟩
          go_wp2_with fail
          go_round
          case rel => exact ⟨j - 1, _, by omega, by omega, HN.out, rfl, rfl⟩
          case measure => simp [intOf]; omega
        · obtain rfl : j = -1 := by omega
          have hvc : v = c := by rw [HV.out]; exact H15.out
          subst hvc
          go_wp2_with fail
          refine (gmHeight_c HG.out).mono ?_
          rintro e wx ⟨rfl, rfl⟩
          go_wp2_with fail
          go_loop [8, 10] (fun s8 s10 => ∃ (j : Int) (u : Nat), (n : Int) - 8 ≤ j ∧ j ≤ (n : Int) - 1 ∧ u = tbv tb ((n : Int) - 1 - j).toNat ∧ s8 = intc u ∧ s10 = .int .i64 j) (fun _ s => (intOf s + 1).toNat)
          case atStart => exact ⟨(n : Int) - 1, 0, by omega, by omega, by rw [Int.sub_self]; rfl, rfl, rfl⟩
          case round =>
            obtain ⟨j, u, hj1, hj2, hu, rfl, rfl⟩ := hrel
            have HU := Lib.hid hu
            clear hu
            by_cases hlt : (n : Int) - 7 ≤ j
            · obtain ⟨k, hk⟩ : ∃ k : Nat, ((n : Int) - 1 - j).toNat = k := ⟨_, rfl⟩
              have HCB : Hid (Calls Tryz.prog 203 #[ptv P, .int .i64 8, .int .i64 j, intc u] w fun e w' => e = .returned (intc (tbv tb (k + 1))) ∧ w = w') := Lib.hid (by
                rw [HU.out, hk]
                exact copyTb_c HP.out HG.out tb k (n - 1 - k) 8 _ _ rfl (by omega) (by omega) (by omega) (A6.out k (by omega)) (by rw [HL.out]; omega) (by omega))
              have HN : Hid (tbv tb (k + 1) = tbv tb ((n : Int) - 1 - (j - 1)).toNat) := Lib.hid (by congr 1; omega)
              clear hk
              go_wp2_with fail
              refine HCB.out.mono ?_
              rintro e wx ⟨rfl, rfl⟩
              go_wp2_with fail
              go_round
              case rel => exact ⟨j - 1, _, by omega, by omega, HN.out, rfl, rfl⟩
              case measure => simp [intOf]; omega
            · have hu7 : u = tbv tb 7 := by rw [HU.out]; congr 1; omega
              have HU7 := Lib.hid hu7
              clear hu7
              go_wp2_with fail
              go_loop [8, 11] (fun s8 s11 => ∃ k : Nat, k ≤ 8 ∧ s8 = intc (tbv tb (7 + k)) ∧ s11 = .int .i64 ((n : Int) - 8 + (k : Int))) (fun _ s => ((n : Int) - intOf s).toNat)
              case atStart => exact ⟨0, by omega, by rw [HU7.out], by go_num⟩
              case round =>
                obtain ⟨k, hk, rfl, rfl⟩ := hrel
                by_cases hlt : k < 8
                · have ki : (n : Int) - 8 + (k : Int) < n := by omega
                  go_wp2_with fail
                  refine (copyTb_c HP.out HG.out tb (7 + k) 8 (n - 8 + k) _ _ (by omega) rfl (by omega) (by omega) (A7.out k hlt) (by rw [HL.out]; omega) (by omega)).mono ?_
                  rintro e wx ⟨rfl, rfl⟩
                  go_wp2_with fail
                  go_round
                  case rel => exact ⟨k + 1, by omega, rfl, by go_num⟩
                  case measure => simp [intOf]; omega
                · obtain rfl : k = 8 := by omega
                  rw [show tbv tb (7 + 8) = v from H15.out]
                  go_wp2_with fail
                  refine (decodeFormat_c t v ht HC.out w).mono ?_
                  rintro e w1 ⟨⟨F, rfl, hf, hF⟩, hk1⟩
                  have hP1 := hk1.blk HP.out (by simp)
                  have d2 := hP1.at (i := 2) rfl
                  have g2 := hP1.free 2
                  have HP1 := Lib.hid hP1
                  have HF := Lib.hid hf
                  have HK1 := Lib.hid hk1
                  have HFl := Lib.hid hF
                  clear hP1 hf hk1 hF
                  go_wp2_with fail
                  go_ret2
                  have hPl := HP.out.lt
                  have hFl := HFl.out
                  exact ⟨⟨F, rfl, HF.out.set_other (by show P ≠ F; omega) _, HP1.out.set 2 _, hFl⟩, (HK1.out.mono (by simp)).setCell (p := ⟨P, 2, none⟩) (.inl (by simp)) _⟩
/-- A parser that has read the format says it again. -/
theorem readFormat2_c {w : World} {P G F : Nat} {pv : Value} (hP : Blk w P [ptv G, pv, ptv F, .bool false] 312) : Calls Tryz.prog 164 #[ptv P] w fun e w' => e = .returned (.tuple #[ptv F, .nilIface]) ∧ w = w' := by
  have c2 := hP.at (i := 2) rfl
  clear hP
  go_enter Tryz.func164, Tryz.ntmps164
  go_wp2_with fail
  go_ret2
  exact ⟨rfl, rfl⟩
end

section
set_option maxRecDepth 100000 in
set_option maxHeartbeats 1000000 in
theorem readVersionS_c {w : World} {P G C n rs k : Nat} {ws : List Nat} {f : Nat → Nat → Bool} {pf : Value} (hP : Blk w P [ptv G, .pointer none, pf, .bool false] 312) (hG : GM w G C n n rs ws f) (hn : n = 21 + 4 * k) (hk : k < 6) :
    Calls Tryz.prog 163 #[ptv P] w fun e w' => (∃ V N, e = .returned (.tuple #[ptv V, .nilIface]) ∧ Ver w' V N (k + 1) ∧ w.heap.size ≤ N) ∧ Kept [] w w' := by
  have c0 := hP.at (i := 0) rfl
  have c1 := hP.at (i := 1) rfl
  have HG := Lib.hid hG
  have hd : ((n : Int) - 17) / 4 = ((k + 1 : Nat) : Int) := by omega
  obtain ⟨v, hv⟩ : ∃ v, k + 1 = v := ⟨_, rfl⟩
  rw [hv] at hd ⊢
  have vi : (v : Int) ≤ 6 := by omega
  have ni : (n : Int) ≤ 45 := by omega
  have HN := Lib.hid hn
  have v1 : 1 ≤ v := by omega
  clear hn hv hP hG
  go_enter Tryz.func163, Tryz.ntmps163
  go_wp2_with fail
  refine (gmHeight_c HG.out).mono ?_
  rintro e wx ⟨rfl, rfl⟩
  go_wp2_with fail
  refine (version_c v v1 (by omega) w).mono ?_
  rintro e w2 ⟨⟨V, N, rfl, hv, hl⟩, hk2⟩
  have HV := Lib.hid hv
  have HK2 := Lib.hid hk2
  clear hv hk2
  go_wp2_with fail
  go_ret2
  exact ⟨⟨V, N, rfl, HV.out, hl⟩, HK2.out⟩
theorem ver_lit : tbv versionBits7 18 = 31892 := by
  unfold tbv; rw [List.take_of_length_le (by rw [versionBits7_len]; omega)]; exact ver_val
set_option maxRecDepth 100000 in
set_option maxHeartbeats 4000000 in
theorem readVersion7_c {w : World} {P G C rs : Nat} {ws : List Nat} {f : Nat → Nat → Bool} {pf : Value} (hP : Blk w P [ptv G, .pointer none, pf, .bool false] 312) (hG : GM w G C 45 45 rs ws f)
    (hb : ∀ m, m < 18 → f (m / 3) (34 + m % 3) = versionBits7.getD (17 - m) false) :
    Calls Tryz.prog 163 #[ptv P] w fun e w' => (∃ V N, e = .returned (.tuple #[ptv V, .nilIface]) ∧ Ver w' V N 7 ∧ Blk w' P [ptv G, ptv V, pf, .bool false] 312 ∧ w.heap.size ≤ N) ∧ Kept [P] w w' := by
  have hl := versionBits7_len
  have hlit := ver_lit
  obtain ⟨tb, htb⟩ : ∃ tb, versionBits7 = tb := ⟨_, rfl⟩
  rw [htb] at hl hlit hb
  have a1 : ∀ j i : Nat, j < 6 → 34 ≤ i → i < 37 → f j i = tb.getD (15 - 3 * j + (36 - i)) false := fun j i h1 h2 h3 => by
    have := hb (3 * j + (i - 34)) (by omega)
    rw [show (3 * j + (i - 34)) / 3 = j by omega, show 34 + (3 * j + (i - 34)) % 3 = i by omega, show 17 - (3 * j + (i - 34)) = 15 - 3 * j + (36 - i) by omega] at this
    exact this
  have c0 := hP.at (i := 0) rfl
  have c1 := hP.at (i := 1) rfl
  have HP := Lib.hid hP
  have HG := Lib.hid hG
  have HL := Lib.hid hl
  have A1 := Lib.hid a1
  have HLIT := Lib.hid hlit
  clear hl hlit htb hb a1 hP hG
  go_enter Tryz.func163, Tryz.ntmps163
  go_wp2_with fail
  refine (gmHeight_c HG.out).mono ?_
  rintro e wx ⟨rfl, rfl⟩
  go_wp2_with fail
  go_loop [6, 8, 9] (fun s6 s8 s9 => ∃ (j : Int) (v : Nat), -1 ≤ j ∧ j ≤ 5 ∧ v = tbv tb (15 - 3 * j).toNat ∧ s6 = intc v ∧ s8 = .int .i64 j) (fun _ s _ => (intOf s + 1).toNat)
  case atStart => exact ⟨5, 0, by omega, by omega, rfl, rfl, rfl⟩
  case round =>
    obtain ⟨j, v, hj1, hj2, hv, rfl, rfl⟩ := hrel
    have HV := Lib.hid hv
    clear hv
    by_cases hlt : 0 ≤ j
    · go_wp2_with fail
      go_loop [6, 9] (fun s6 s9 => ∃ (i : Int) (u : Nat), 33 ≤ i ∧ i ≤ 36 ∧ u = tbv tb (15 - 3 * j + (36 - i)).toNat ∧ s6 = intc u ∧ s9 = .int .i64 i) (fun _ s => (intOf s + 1).toNat)
      case atStart => exact ⟨36, v, by omega, by omega, by rw [HV.out]; congr 1; omega, rfl, rfl⟩
      case round =>
        obtain ⟨i, u, hi1, hi2, hu, rfl, rfl⟩ := hrel
        have HU := Lib.hid hu
        clear hu HV
        by_cases hlti : 34 ≤ i
        · obtain ⟨jn, hjn⟩ : ∃ k : Nat, j.toNat = k := ⟨_, rfl⟩
          obtain ⟨im, him⟩ : ∃ k : Nat, i.toNat = k := ⟨_, rfl⟩
          have HCB : Hid (Calls Tryz.prog 203 #[ptv P, .int .i64 i, .int .i64 j, intc u] w fun e w' => e = .returned (intc (tbv tb (15 - 3 * jn + (36 - im) + 1))) ∧ w = w') := Lib.hid (by
            rw [HU.out, show (15 - 3 * j + (36 - i)).toNat = 15 - 3 * jn + (36 - im) by omega]
            exact copyTb_c HP.out HG.out tb (15 - 3 * jn + (36 - im)) jn im _ _ (by omega) (by omega) (by omega) (by omega) (A1.out jn im (by omega) (by omega) (by omega)) (by rw [HL.out]; omega) (by omega))
          have HN : Hid (tbv tb (15 - 3 * jn + (36 - im) + 1) = tbv tb (15 - 3 * j + (36 - (i - 1))).toNat) := Lib.hid (by congr 1; omega)
          clear hjn him
          go_wp2_with fail
          refine HCB.out.mono ?_
          rintro e wx ⟨rfl, rfl⟩
          go_wp2_with fail
          go_round
          case rel => exact ⟨i - 1, _, by omega, by omega, HN.out, rfl, rfl⟩
          case measure => simp [intOf]; omega
        · have HU2 : Hid (u = tbv tb (15 - 3 * (j - 1)).toNat) := Lib.hid (by rw [HU.out]; congr 1; omega)
          go_wp2_with fail
          go_round
          case rel => exact ⟨j - 1, u, by omega, by omega, HU2.out, rfl, rfl⟩
          case measure => simp [intOf]; omega
    · obtain rfl : j = -1 := by omega
      have hvl : v = 31892 := by rw [HV.out]; exact HLIT.out
      subst hvl
      go_wp2_with fail
      refine (decodeVersion_c w).mono ?_
      rintro e w1 ⟨⟨V, N, rfl, hv, hN⟩, hk1⟩
      have hP1 := hk1.blk HP.out (by simp)
      have d1 := hP1.at (i := 1) rfl
      have g1 := hP1.free 1
      have HP1 := Lib.hid hP1
      have HV1 := Lib.hid hv
      have HK1 := Lib.hid hk1
      have HNl := Lib.hid hN
      clear hP1 hv hk1 hN HV
      go_wp2_with fail
      refine (verDim_c HV1.out (by omega)).mono ?_
      rintro e wx ⟨rfl, rfl⟩
      go_wp2_with fail
      go_ret2
      have hPl := HP.out.lt
      have hNl := HNl.out
      have hk2 : Kept [P] w1 (w1.setCell ⟨P, 1, none⟩ (ptv V)) := (Kept.refl _ _).setCell (p := ⟨P, 1, none⟩) (.inl (by simp)) _
      exact ⟨⟨V, N, rfl, HV1.out.kept hk2 (by simp; omega), HP1.out.set 1 _, hNl⟩, (HK1.out.mono (by simp)).then hk2⟩
/-- A parser that has read the version says it again. -/
theorem readVersion2_c {w : World} {P G V : Nat} {pf : Value} (hP : Blk w P [ptv G, ptv V, pf, .bool false] 312) : Calls Tryz.prog 163 #[ptv P] w fun e w' => e = .returned (.tuple #[ptv V, .nilIface]) ∧ w = w' := by
  have c1 := hP.at (i := 1) rfl
  clear hP
  go_enter Tryz.func163, Tryz.ntmps163
  go_wp2_with fail
  go_ret2
  exact ⟨rfl, rfl⟩
end
end Go.Proofs.YtplpafbkalkchaaGreatDoor
