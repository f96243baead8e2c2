/- Walks: the hybrid binarizer's small functions. Walk: the hybrid binarizer's thresholds, block by block. -/
import Derived.BigQuiet
import Derived.Test.YtplpafbkalkchaaGreatDoorW32
namespace Go.Proofs.YtplpafbkalkchaaGreatDoor
open Go Go.RowKit Go.Proofs
set_option linter.all false

section
theorem capped_c (self : Value) (v hi : Nat) (h2 : 2 ≤ hi) (hv : v ≤ 1000) (hh : hi ≤ 1000) (w : World) : Calls Tryz.prog 322 #[self, .int .i64 (v : Int), .int .i64 2, .int .i64 (hi : Int)] w fun e w' => (∃ c : Nat, e = .returned (.int .i64 (c : Int)) ∧ 2 ≤ c ∧ c ≤ hi) ∧ w = w' := by
  have i1 : (2 : Int) ≤ hi := by omega
  by_cases h1 : v < 2
  · have j1 : (v : Int) < 2 := by omega
    go_enter Tryz.func322, Tryz.ntmps322
    go_wp2_with fail
    go_ret
    exact ⟨⟨2, rfl, Nat.le_refl _, h2⟩, rfl⟩
  · have j1 : ¬ (v : Int) < 2 := by omega
    by_cases h3 : hi < v
    · have j2 : (hi : Int) < v := by omega
      go_enter Tryz.func322, Tryz.ntmps322
      go_wp2_with fail
      go_ret
      exact ⟨⟨hi, rfl, h2, Nat.le_refl _⟩, rfl⟩
    · have j2 : ¬ (hi : Int) < v := by omega
      go_enter Tryz.func322, Tryz.ntmps322
      go_wp2_with fail
      go_ret
      exact ⟨⟨v, rfl, by omega, by omega⟩, rfl⟩
/-- g, and f in the block of 8 by 8 at (xo, yo): its first yy rows, of the next one xx columns. -/
def uni (g f : Nat → Nat → Bool) (yo xo yy xx : Nat) : Nat → Nat → Bool := fun y x => g y x || (decide (yo ≤ y ∧ xo ≤ x ∧ x < xo + 8 ∧ (y < yo + yy ∨ (y = yo + yy ∧ x < xo + xx))) && f y x)
theorem uni_zero (g f : Nat → Nat → Bool) (yo xo : Nat) : uni g f yo xo 0 0 = g := by
  funext y x; unfold uni
  have : decide (yo ≤ y ∧ xo ≤ x ∧ x < xo + 8 ∧ (y < yo + 0 ∨ (y = yo + 0 ∧ x < xo + 0))) = false := decide_eq_false (by omega)
  rw [this]; simp
theorem uni_row (g f : Nat → Nat → Bool) (yo xo yy : Nat) : uni g f yo xo yy 8 = uni g f yo xo (yy + 1) 0 := by
  funext y x; unfold uni
  have : decide (yo ≤ y ∧ xo ≤ x ∧ x < xo + 8 ∧ (y < yo + yy ∨ (y = yo + yy ∧ x < xo + 8))) = decide (yo ≤ y ∧ xo ≤ x ∧ x < xo + 8 ∧ (y < yo + (yy + 1) ∨ (y = yo + (yy + 1) ∧ x < xo + 0))) := decide_eq_decide.2 (by omega)
  rw [this]
theorem uni_dark {g f : Nat → Nat → Bool} {yo xo yy xx : Nat} (hx : xx < 8) (h : f (yo + yy) (xo + xx) = true) : updB (uni g f yo xo yy xx) (yo + yy) (xo + xx) true = uni g f yo xo yy (xx + 1) := by
  funext y x
  unfold updB uni
  by_cases e : y = yo + yy ∧ x = xo + xx
  · obtain ⟨rfl, rfl⟩ := e
    rw [if_pos ⟨rfl, rfl⟩, h]
    have : decide (yo ≤ yo + yy ∧ xo ≤ xo + xx ∧ xo + xx < xo + 8 ∧ (yo + yy < yo + yy ∨ (yo + yy = yo + yy ∧ xo + xx < xo + (xx + 1)))) = true := decide_eq_true (by omega)
    rw [this]; simp
  · rw [if_neg e]
    have : decide (yo ≤ y ∧ xo ≤ x ∧ x < xo + 8 ∧ (y < yo + yy ∨ (y = yo + yy ∧ x < xo + xx))) = decide (yo ≤ y ∧ xo ≤ x ∧ x < xo + 8 ∧ (y < yo + yy ∨ (y = yo + yy ∧ x < xo + (xx + 1)))) := decide_eq_decide.2 (by omega)
    rw [this]
theorem uni_light {g f : Nat → Nat → Bool} {yo xo yy xx : Nat} (h : f (yo + yy) (xo + xx) = false) : uni g f yo xo yy xx = uni g f yo xo yy (xx + 1) := by
  funext y x
  unfold uni
  by_cases e : y = yo + yy ∧ x = xo + xx
  · obtain ⟨rfl, rfl⟩ := e; rw [h]; simp
  · have : decide (yo ≤ y ∧ xo ≤ x ∧ x < xo + 8 ∧ (y < yo + yy ∨ (y = yo + yy ∧ x < xo + xx))) = decide (yo ≤ y ∧ xo ≤ x ∧ x < xo + 8 ∧ (y < yo + yy ∨ (y = yo + yy ∧ x < xo + (xx + 1)))) := decide_eq_decide.2 (by omega)
    rw [this]
set_option maxRecDepth 100000 in
set_option maxHeartbeats 4000000 in
theorem threshold_c {w : World} {D cap G C W H rs lt : Nat} {gs : List Nat} {ws : List Nat} {rest : List Value} {f g : Nat → Nat → Bool} (hd : Blk w D (gs.map u8c ++ rest) 5) (hl : gs.length = H * W)
    (hat : ∀ y x, y < H → x < W → gs[y * W + x]? = some (if f y x then 0 else lt)) (hlt : lt < 256) (hg : GM w G C W H rs ws g) (hDC : D ≠ C) (self : Value) (xo yo t : Nat) (hx : xo + 8 ≤ W) (hy : yo + 8 ≤ H) (ht : t < lt) (hW : W ≤ 300) (hH : H ≤ 300) :
    Calls Tryz.prog 323 #[self, .slice (some ⟨D, 0, none⟩) gs.length cap, .int .i64 (xo : Int), .int .i64 (yo : Int), .int .i64 (t : Int), .int .i64 (W : Int), ptv G] w fun e w' =>
      e = .returned (.tuple #[]) ∧ (∃ ws', GM w' G C W H rs ws' (uni g f yo xo 8 0)) ∧ Kept [C] w w' := by
  have hlen9 : gs.length ≤ 90000 := by rw [hl]; exact Nat.le_trans (Nat.mul_le_mul hH hW) (by omega)
  have i1 : (W : Int) ≤ 300 := by omega
  have i2 : (xo : Int) ≤ 300 := by omega
  have i3 : (yo : Int) ≤ 300 := by omega
  have i4 : (t : Int) < lt := by omega
  have i5 : (lt : Int) < 256 := by omega
  obtain ⟨o, ho⟩ : ∃ o, yo * W = o := ⟨_, rfl⟩
  have hoi : (yo : Int) * (W : Int) = (o : Int) := by rw [← ho]; simp
  have o9 : o ≤ 90000 := by rw [← ho]; exact Nat.le_trans (Nat.mul_le_mul (show yo ≤ 300 by omega) hW) (by omega)
  have o9i : (o : Int) ≤ 90000 := by omega
  have HO := Lib.hid ho
  have HD := Lib.hid hd
  have HL := Lib.hid hl
  have HG := Lib.hid hg
  have HWd := Lib.hid hg.wide
  clear ho hd hl hg
  go_enter Tryz.func323, Tryz.ntmps323
  go_wp2_with fail
  go_loopw [14, 15] (fun s14 s15 wr => ∃ (yy : Nat) (ws : List Nat), yy ≤ 8 ∧ s14 = .int .i64 (yy : Int) ∧ s15 = .int .i64 (((yo + yy) * W + xo : Nat) : Int) ∧ GM wr G C W H rs ws (uni g f yo xo yy 0) ∧ Kept [C] w wr) (fun s _ _ => (8 - intOf s).toNat)
  case atStart => exact ⟨0, ws, by omega, rfl, by rw [Nat.add_zero, HO.out]; go_num, by rw [uni_zero]; exact HG.out, Kept.refl _ _⟩
  case round =>
    obtain ⟨yy, ws1, hyy, rfl, rfl, hg1, hk1⟩ := hrel
    have HG1 := Lib.hid hg1
    have HK1 := Lib.hid hk1
    clear hg1 hk1
    obtain ⟨p, hp⟩ : ∃ p, (yo + yy) * W + xo = p := ⟨_, rfl⟩
    have HP := Lib.hid hp
    rw [hp]
    clear hp
    by_cases hlt8 : yy < 8
    · have hi : (yy : Int) < 8 := by omega
      have hyH : yo + yy < H := by omega
      have hrow : (yo + yy) * W + W ≤ gs.length := by rw [HL.out, ← Nat.succ_mul]; exact Nat.mul_le_mul_right _ hyH
      have hp9 : p + 8 ≤ gs.length := by have := HP.out; omega
      have p9i : (p : Int) ≤ 90000 := by omega
      clear hrow
      go_wp2_with fail
      obtain ⟨w5, rfl⟩ : ∃ w5 : World, w5 = wr := ⟨_, rfl⟩
      go_loopw [16] (fun s16 wr => ∃ (xx : Nat) (ws : List Nat), xx ≤ 8 ∧ s16 = .int .i64 (xx : Int) ∧ GM wr G C W H rs ws (uni g f yo xo yy xx) ∧ Kept [C] w wr) (fun s _ => (8 - intOf s).toNat)
      case atStart => exact ⟨0, ws1, by omega, rfl, HG1.out, HK1.out⟩
      case round =>
        obtain ⟨xx, ws2, hxx, rfl, hg2, hk2⟩ := hrel
        have HG2 := Lib.hid hg2
        have HK2 := Lib.hid hk2
        by_cases hltx : xx < 8
        · have hix : (xx : Int) < 8 := by omega
          have hxW : xo + xx < W := by omega
          have hcell := (hk2.blk HD.out (by simpa using hDC)).at (i := p + xx) (v := u8c (if f (yo + yy) (xo + xx) then 0 else lt)) (by
            rw [List.getElem?_append_left (by rw [List.length_map]; omega), List.getElem?_map, ← HP.out, Nat.add_assoc, hat _ _ hyH hxW]; rfl)
          clear hg2 hk2
          cases hfx : f (yo + yy) (xo + xx)
          · rw [hfx] at hcell
            simp only [Bool.false_eq_true, if_false] at hcell
            unfold u8c at hcell
            have p1 := and255 lt hlt
            have p3 : ¬ (lt : Int) ≤ t := by omega
            have H4 : Hid (GM wr G C W H rs ws2 (uni g f yo xo yy (xx + 1))) := Lib.hid (by rw [← uni_light hfx]; exact HG2.out)
            go_wp2_with fail
            go_roundw
            case rel => exact ⟨xx + 1, ws2, by omega, by go_num, H4.out, HK2.out⟩
            case measure => simp [intOf]; omega
          · rw [hfx] at hcell
            simp only [if_true] at hcell
            unfold u8c at hcell
            have p1 : bits .and .u8 0 255 = 0 := by decide
            have p3 : (0 : Int) ≤ t := by omega
            have hx32 : xo + xx < 32 * rs := by have := HWd.out; omega
            have hset := gmSet_c HG2.out hyH hx32
            rw [show ((xo + xx : Nat) : Int) = (xo : Int) + (xx : Int) from by omega, show ((yo + yy : Nat) : Int) = (yo : Int) + (yy : Int) from by omega] at hset
            have HSET := Lib.hid hset
            clear hset
            go_wp2_with fail
            refine HSET.out.mono ?_
            rintro e w7 ⟨rfl, hg7, hk7⟩
            rw [uni_dark hltx hfx] at hg7
            have HG7 := Lib.hid hg7
            have HK7 := Lib.hid (HK2.out.then hk7)
            clear hg7 hk7
            go_wp2_with fail
            go_roundw
            case rel => exact ⟨xx + 1, _, by omega, by go_num, HG7.out, HK7.out⟩
            case measure => simp [intOf]; omega
        · obtain rfl : xx = 8 := by omega
          clear hg2 hk2
          have hnx : Hid (p + W = (yo + (yy + 1)) * W + xo) := Lib.hid (by rw [← HP.out, ← Nat.add_assoc, Nat.succ_mul]; omega)
          go_wp2_with fail
          go_roundw
          case rel => exact ⟨yy + 1, ws2, by omega, by go_num, by rw [← hnx.out]; go_num, by rw [← uni_row]; exact HG2.out, HK2.out⟩
          case measure => simp [intOf]; omega
    · obtain rfl : yy = 8 := by omega
      go_wp2_with fail
      go_end0
      exact ⟨rfl, ⟨ws1, HG1.out⟩, HK1.out⟩
end

section
/-- Block R holds sH rows of sW numbers, all below lt. -/
structure IP (w : World) (R sH sW lt : Nat) (P : Nat → Nat → Nat) : Prop where
  rows : Blk w R (rowOf sH fun y => slv (R + 1 + y) sW sW) 157
  row : ∀ y, y < sH → Blk w (R + 1 + y) (rowOf sW fun x => .int .i64 (P y x : Int)) 3
  low : ∀ y x, y < sH → x < sW → P y x < lt
theorem IP.kept {w w' : World} {R sH sW lt : Nat} {P : Nat → Nat → Nat} {S : List Nat} (h : IP w R sH sW lt P) (hk : Kept S w w') (hS : ∀ x ∈ S, x < R ∨ R + sH < x) : IP w' R sH sW lt P :=
  ⟨hk.blk h.rows (fun hx => by have := hS _ hx; omega), fun y hy => hk.blk (h.row y hy) (fun hx => by have := hS _ hx; omega), h.low⟩
/-- g is dark only where f is, and all of f is in it in the blocks done. -/
structure Inv (f g : Nat → Nat → Bool) (W H yb xb : Nat) : Prop where
  only : ∀ Y X, g Y X = true → X < W ∧ f Y X = true
  all : ∀ Y X, Y < H → X < W → f Y X = true → (Y < 8 * yb ∨ (Y < 8 * yb + 8 ∧ X < 8 * xb)) → g Y X = true
theorem Inv.step {f g : Nat → Nat → Bool} {W H yb xb yo xo : Nat} (h : Inv f g W H yb xb) (hy : yo = min (8 * yb) (H - 8)) (hx : xo = min (8 * xb) (W - 8)) (hW : 8 ≤ W) (hH : 8 ≤ H) : Inv f (uni g f yo xo 8 0) W H yb (xb + 1) := by
  constructor
  · intro Y X hg
    unfold uni at hg
    rw [Bool.or_eq_true, Bool.and_eq_true, decide_eq_true_iff] at hg
    rcases hg with hg | ⟨h1, h2⟩
    · exact h.only Y X hg
    · exact ⟨by omega, h2⟩
  · intro Y X hY hX hf hc
    unfold uni
    rw [Bool.or_eq_true, Bool.and_eq_true, decide_eq_true_iff]
    by_cases h1 : Y < 8 * yb ∨ (Y < 8 * yb + 8 ∧ X < 8 * xb)
    · exact .inl (h.all Y X hY hX hf h1)
    · exact .inr ⟨by omega, hf⟩
theorem Inv.row {f g : Nat → Nat → Bool} {W H yb sW : Nat} (h : Inv f g W H yb sW) (hs : W ≤ 8 * sW) : Inv f g W H (yb + 1) 0 :=
  ⟨h.only, fun Y X hY hX hf hc => h.all Y X hY hX hf (by omega)⟩
set_option maxRecDepth 100000 in
set_option maxHeartbeats 8000000 in
theorem blocks_c {w : World} {D cap G C R W H rs lt sW sH : Nat} {gs : List Nat} {ws : List Nat} {rest : List Value} {f : Nat → Nat → Bool} {P : Nat → Nat → Nat} (hd : Blk w D (gs.map u8c ++ rest) 5) (hl : gs.length = H * W)
    (hat : ∀ y x, y < H → x < W → gs[y * W + x]? = some (if f y x then 0 else lt)) (hlt : lt < 256) (hlt1 : 128 ≤ lt) (hg : GM w G C W H rs ws (fun _ _ => false)) (hDC : D ≠ C) (hp : IP w R sH sW lt P) (hRC : C < R ∨ R + sH < C)
    (self : Value) (hW : W ≤ 300) (hH : H ≤ 300) (hW1 : 40 ≤ W) (hH1 : 40 ≤ H) (hsW : sW = (W + 7) / 8) (hsH : sH = (H + 7) / 8) :
    Calls Tryz.prog 321 #[self, .slice (some ⟨D, 0, none⟩) gs.length cap, .int .i64 (sW : Int), .int .i64 (sH : Int), .int .i64 (W : Int), .int .i64 (H : Int), slv R sH sH, ptv G] w fun e w' =>
      e = .returned (.tuple #[]) ∧ (∃ ws', GM w' G C W H rs ws' (fun y x => decide (x < W) && f y x)) ∧ Kept [C] w w' := by
  have i1 : (W : Int) ≤ 300 := by omega
  have i2 : (H : Int) ≤ 300 := by omega
  have i3 : (40 : Int) ≤ W := by omega
  have i4 : (40 : Int) ≤ H := by omega
  have i5 : (5 : Int) ≤ sW := by omega
  have i6 : (5 : Int) ≤ sH := by omega
  have i7 : (sW : Int) ≤ 38 := by omega
  have i8 : (sH : Int) ≤ 38 := by omega
  have s8 : W ≤ 8 * sW := by omega
  have t8 : H ≤ 8 * sH := by omega
  have s9 : sW ≤ 38 := by omega
  have t9 : sH ≤ 38 := by omega
  have s5 : 5 ≤ sW := by omega
  have t5 : 5 ≤ sH := by omega
  have HD := Lib.hid hd
  have HL := Lib.hid hl
  have HG := Lib.hid hg
  have HPP := Lib.hid hp
  have HSW := Lib.hid hsW
  have HSH := Lib.hid hsH
  have hw8 : (W : Int) - 8 = ((W - 8 : Nat) : Int) := by omega
  have hh8 : (H : Int) - 8 = ((H - 8 : Nat) : Int) := by omega
  obtain ⟨mw, hmw⟩ : ∃ m, W - 8 = m := ⟨_, rfl⟩
  obtain ⟨mh, hmh⟩ : ∃ m, H - 8 = m := ⟨_, rfl⟩
  rw [hmw] at hw8
  rw [hmh] at hh8
  have j1 : (mw : Int) ≤ 300 := by omega
  have j2 : (mh : Int) ≤ 300 := by omega
  have HMW := Lib.hid hmw
  have HMH := Lib.hid hmh
  clear hd hl hg hp hsW hsH hmw hmh
  go_enter Tryz.func321, Tryz.ntmps321
  go_wp2_with fail
  go_loopw [18] (fun s18 wr => ∃ (y : Nat) (ws : List Nat) (g : Nat → Nat → Bool), y ≤ sH ∧ s18 = .int .i64 (y : Int) ∧ GM wr G C W H rs ws g ∧ Inv f g W H y 0 ∧ Kept [C] w wr) (fun s _ => (sH - intOf s).toNat)
  case atStart => exact ⟨0, ws, _, by omega, rfl, HG.out, ⟨fun Y X h => (by simp at h), fun Y X h1 h2 h3 h4 => (by omega)⟩, Kept.refl _ _⟩
  case round =>
    obtain ⟨y, ws1, g, hy, rfl, hg1, hinv, hk1⟩ := hrel
    have HG1 := Lib.hid hg1
    have HK1 := Lib.hid hk1
    clear hg1 hk1
    by_cases hlty : y < sH
    · have hi : (y : Int) < sH := by omega
      obtain ⟨yo, hyo⟩ : ∃ yo, min (8 * y) (H - 8) = yo := ⟨_, rfl⟩
      have HYO := Lib.hid hyo
      have yo9 : (yo : Int) ≤ 300 := by omega
      have y9 : (y : Int) ≤ 38 := by omega
      obtain ⟨w5, rfl⟩ : ∃ w5 : World, w5 = wr := ⟨_, rfl⟩
      have hs3 : (sH : Int) - 3 = ((sH - 3 : Nat) : Int) := by omega
      obtain ⟨sh3, hsh3⟩ : ∃ q, sH - 3 = q := ⟨_, rfl⟩
      rw [hsh3] at hs3
      have sh39 : 2 ≤ sh3 := by omega
      have HS3 := Lib.hid hsh3
      clear hsh3
      go_upto_if 41 with fail
      go_cut [19] from 39 to 43 (fun v wx => v = .int .i64 (yo : Int) ∧ w5 = wx)
      case first =>
        by_cases h : mh < 8 * y
        · have hi2 : (mh : Int) < (y : Int) * 8 := by omega
          have e : Hid (mh = yo) := Lib.hid (by have := HYO.out; have := HMH.out; omega)
          clear hyo
          go_wp2_with fail
          go_meet
          exact ⟨by rw [e.out], rfl⟩
        · have hi2 : ¬ (mh : Int) < (y : Int) * 8 := by omega
          have e : Hid ((y : Int) * 8 = yo) := Lib.hid (by have := HYO.out; have := HMH.out; omega)
          clear hyo
          go_wp2_with fail
          go_meet
          exact ⟨by rw [e.out], rfl⟩
      case rest =>
        obtain ⟨rfl, rfl⟩ := hcut
        clear hyo
        go_wp2_with fail
        refine (capped_c self y sh3 sh39 (by omega) (by omega) w5).mono ?_
        rintro e wx ⟨⟨c, rfl, hc1, hc2⟩, rfl⟩
        go_wp2_with fail
        have hlt9 : (lt : Int) < 256 := by omega
        go_loopw [21] (fun s21 wr => ∃ (x : Nat) (ws : List Nat) (g : Nat → Nat → Bool), x ≤ sW ∧ s21 = .int .i64 (x : Int) ∧ GM wr G C W H rs ws g ∧ Inv f g W H y x ∧ Kept [C] w wr) (fun s _ => (sW - intOf s).toNat)
        case atStart => exact ⟨0, ws1, g, by omega, rfl, HG1.out, hinv, HK1.out⟩
        case round =>
          clear hinv
          obtain ⟨x, ws2, g2, hx, rfl, hg2, hinv, hk2⟩ := hrel
          have HG2 := Lib.hid hg2
          have HK2 := Lib.hid hk2
          have HINV := Lib.hid hinv
          clear hg2 hk2 hinv
          by_cases hltx : x < sW
          · have hix : (x : Int) < sW := by omega
            obtain ⟨xo, hxo⟩ : ∃ xo, min (8 * x) (W - 8) = xo := ⟨_, rfl⟩
            have HXO := Lib.hid hxo
            have xo9 : (xo : Int) ≤ 300 := by omega
            have x9 : (x : Int) ≤ 38 := by omega
            obtain ⟨w6, rfl⟩ : ∃ w6 : World, w6 = wr := ⟨_, rfl⟩
            have hs4 : (sW : Int) - 3 = ((sW - 3 : Nat) : Int) := by omega
            obtain ⟨sw3, hsw3⟩ : ∃ q, sW - 3 = q := ⟨_, rfl⟩
            rw [hsw3] at hs4
            have sw39 : 2 ≤ sw3 := by omega
            have HS4 := Lib.hid hsw3
            clear hsw3
            go_upto_if 57 with fail
            go_cut [22] from 55 to 59 (fun v wx => v = .int .i64 (xo : Int) ∧ w6 = wx)
            case first =>
              by_cases h : mw < 8 * x
              · have hi2 : (mw : Int) < (x : Int) * 8 := by omega
                have e : Hid (mw = xo) := Lib.hid (by have := HXO.out; have := HMW.out; omega)
                clear hxo
                go_wp2_with fail
                go_meet
                exact ⟨by rw [e.out], rfl⟩
              · have hi2 : ¬ (mw : Int) < (x : Int) * 8 := by omega
                have e : Hid ((x : Int) * 8 = xo) := Lib.hid (by have := HXO.out; have := HMW.out; omega)
                clear hxo
                go_wp2_with fail
                go_meet
                exact ⟨by rw [e.out], rfl⟩
            case rest =>
              obtain ⟨rfl, rfl⟩ := hcut
              clear hxo
              go_wp2_with fail
              refine (capped_c self x sw3 sw39 (by omega) (by omega) w6).mono ?_
              rintro e wx ⟨⟨l, rfl, hl1, hl2⟩, rfl⟩
              have HP6 := Lib.hid (HPP.out.kept HK2.out (by intro z hz; simp at hz; subst hz; exact hRC))
              obtain ⟨l2, hl2d⟩ : ∃ q, l = q + 2 := ⟨l - 2, by omega⟩
              have e2 : (l : Int) - 2 = (l2 : Int) := by omega
              have e1 : (l : Int) - 1 = ((l2 + 1 : Nat) : Int) := by omega
              have e3 : (l : Int) + 1 = ((l2 + 3 : Nat) : Int) := by omega
              have e4 : (l : Int) + 2 = ((l2 + 4 : Nat) : Int) := by omega
              have HL2 := Lib.hid hl2d
              have l9 : (l : Int) ≤ 38 := by omega
              have l8 : l2 + 4 < sW := by have := HS4.out; omega
              clear hl2d
              go_wp2_with fail
              go_loopw [24, 25] (fun s24 s25 wr => ∃ (k s : Nat), k ≤ 5 ∧ s24 = .int .i64 (s : Int) ∧ s25 = .int .i64 ((k : Int) - 2) ∧ s ≤ 5 * (lt - 1) * k ∧ Kept [] w6 wr) (fun _ s _ => (3 - intOf s).toNat)
              case atStart => exact ⟨0, 0, by omega, rfl, rfl, by omega, Kept.refl _ _⟩
              case round =>
                obtain ⟨k, sm, hk5, rfl, rfl, hsm, hk⟩ := hrel
                have hk9 : sm ≤ 5 * 255 * 5 := Nat.le_trans hsm (Nat.mul_le_mul (by omega) hk5)
                have sm9 : (sm : Int) ≤ 6375 := by omega
                by_cases hltk : k < 5
                · have ik : (k : Int) - 2 ≤ 2 := by omega
                  obtain ⟨tz, htz⟩ : ∃ tz, c + k - 2 = tz := ⟨_, rfl⟩
                  have hzi : (c : Int) + ((k : Int) - 2) = (tz : Int) := by omega
                  have hzH : tz < sH := by have := HS3.out; omega
                  clear htz
                  have hIP := HP6.out.kept hk (by simp)
                  have cr := hIP.rows.at (rowOf_get (n := sH) (f := fun y => slv (R + 1 + y) sW sW) (i := tz) hzH)
                  have ca := fun q (hq : q < sW) => (hIP.row tz hzH).at (rowOf_get (n := sW) (f := fun x => .int .i64 (P tz x : Int)) (i := q) hq)
                  have c0 := ca l2 (by omega)
                  have c1 := ca (l2 + 1) (by omega)
                  have c2 := ca (l2 + 2) (by omega)
                  have c3 := ca (l2 + 3) (by omega)
                  have c4 := ca (l2 + 4) (by omega)
                  have v0 := hIP.low tz l2 hzH (by omega)
                  have v1 := hIP.low tz (l2 + 1) hzH (by omega)
                  have v2 := hIP.low tz (l2 + 2) hzH (by omega)
                  have v3 := hIP.low tz (l2 + 3) hzH (by omega)
                  have v4 := hIP.low tz (l2 + 4) hzH (by omega)
                  rw [← HL2.out] at c2 v2
                  generalize P tz l2 = a0 at c0 v0
                  generalize P tz (l2 + 1) = a1 at c1 v1
                  generalize P tz l = a2 at c2 v2
                  generalize P tz (l2 + 3) = a3 at c3 v3
                  generalize P tz (l2 + 4) = a4 at c4 v4
                  have u0 : (a0 : Int) ≤ 255 := by omega
                  have u1 : (a1 : Int) ≤ 255 := by omega
                  have u2 : (a2 : Int) ≤ 255 := by omega
                  have u3 : (a3 : Int) ≤ 255 := by omega
                  have u4 : (a4 : Int) ≤ 255 := by omega
                  have hnx : Hid (sm + (a0 + a1 + a2 + a3 + a4) ≤ 5 * (lt - 1) * (k + 1)) := Lib.hid (by rw [Nat.mul_succ]; omega)
                  have HKz := Lib.hid hk
                  clear ca hIP hk hsm
                  go_wp2_with fail
                  go_quiet (fail)
                  go_wp2_with fail
                  go_roundw
                  case rel => exact ⟨k + 1, sm + (a0 + a1 + a2 + a3 + a4), by omega, by go_num, by go_num, hnx.out, HKz.out.drewN _⟩
                  case measure => simp [intOf]; omega
                · obtain rfl : k = 5 := by omega
                  have ht : sm / 25 < lt := by omega
                  obtain ⟨t, htd⟩ : ∃ t, sm / 25 = t := ⟨_, rfl⟩
                  have hti : (sm : Int) / 25 = (t : Int) := by omega
                  rw [htd] at ht
                  clear htd
                  have HTC := Lib.hid (threshold_c (cap := cap) ((HK2.out.trans0 hk).blk HD.out (by simpa using hDC)) HL.out hat hlt (HG2.out.kept hk (by simp) (by simp)) hDC self xo yo t (by have := HXO.out; omega) (by have := HYO.out; omega) ht hW hH)
                  have HKz := Lib.hid (HK2.out.trans0 hk)
                  have HI2 := Lib.hid (HINV.out.step HYO.out.symm HXO.out.symm (by omega) (by omega))
                  clear hk hsm
                  go_wp2_with fail
                  refine HTC.out.mono ?_
                  rintro e w8 ⟨rfl, ⟨ws3, hg3⟩, hk8⟩
                  have HG3 := Lib.hid hg3
                  have HK8 := Lib.hid (HKz.out.then hk8)
                  clear hg3 hk8 HTC
                  go_wp2_with fail
                  go_roundw
                  case rel => exact ⟨x + 1, ws3, _, by omega, by go_num, HG3.out, HI2.out, HK8.out⟩
                  case measure => simp [intOf]; omega
          · obtain rfl : x = sW := by omega
            have HI2 := Lib.hid (HINV.out.row s8)
            go_wp2_with fail
            go_roundw
            case rel => exact ⟨y + 1, ws2, _, by omega, by go_num, HG2.out, HI2.out, HK2.out⟩
            case measure => simp [intOf]; omega
    · obtain rfl : y = sH := by omega
      go_wp2_with fail
      go_end0
      refine ⟨rfl, ⟨ws1, HG1.out.congr (fun Y X hY hX => ?_)⟩, HK1.out⟩
      by_cases h1 : X < W ∧ f Y X = true
      · rw [hinv.all Y X hY h1.1 h1.2 (.inl (by omega))]; simp [h1.1, h1.2]
      · cases hgv : g Y X
        · by_cases h2 : X < W
          · have : f Y X = false := by cases hf : f Y X <;> simp_all
            simp [this]
          · simp [h2]
        · exact absurd (hinv.only Y X hgv) h1
end
end Go.Proofs.YtplpafbkalkchaaGreatDoor
