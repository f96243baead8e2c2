/- Walk: the hybrid binarizer's black points. Walk: the black matrix of a picture, by the hybrid binarizer. -/
import Derived.Test.YtplpafbkalkchaaGreatDoorW35
namespace Go.Proofs.YtplpafbkalkchaaGreatDoor
open Go Go.RowKit Go.Proofs
set_option linter.all false

section
/-- The black points so far: rows before y, of row y the columns before x. -/
structure IPto (w : World) (R sH sW lt y x : Nat) (P : Nat → Nat → Nat) : Prop where
  rows : Blk w R (rowOf sH fun j => if j < y + 1 then slv (R + 1 + j) sW sW else .slice none 0 0) 157
  row : ∀ j, j < y → Blk w (R + 1 + j) (rowOf sW fun i => .int .i64 (P j i : Int)) 3
  cur : Blk w (R + 1 + y) (rowOf sW fun i => .int .i64 (if i < x then (P y i : Int) else 0)) 3
  low : ∀ j i, (j < y ∨ (j = y ∧ i < x)) → i < sW → P j i < lt
theorem IPto.put {w : World} {R sH sW lt y x a : Nat} {P : Nat → Nat → Nat} (h : IPto w R sH sW lt y x P) (ha : a < lt) :
    IPto (w.setCell ⟨R + 1 + y, x, none⟩ (.int .i64 (a : Int))) R sH sW lt y (x + 1) (fun j i => if j = y ∧ i = x then a else P j i) := by
  refine ⟨h.rows.set_other (by simp; omega) _, fun j hj => ?_, ?_, fun j i h1 h2 => ?_⟩
  · have h3 := (h.row j hj).set_other (a := ⟨R + 1 + y, x, none⟩) (by simp; omega) (.int .i64 (a : Int))
    rw [rowOf_congr (g := fun i => .int .i64 (P j i : Int)) (fun i hi => by rw [if_neg (by omega)])]
    exact h3
  · have h3 := h.cur.set x (.int .i64 (a : Int))
    rw [rowOf_set] at h3
    rw [rowOf_congr (g := fun i => if i = x then .int .i64 (a : Int) else .int .i64 (if i < x then (P y i : Int) else 0))]
    · exact h3
    · intro i _
      by_cases e : i = x
      · subst e; simp
      · simp [e, show (i < x + 1) = (i < x) from by simp; omega]
  · show (if j = y ∧ i = x then a else P j i) < lt
    split
    · exact ha
    · exact h.low j i (by omega) h2
theorem IPto.keeps {w w' : World} {R sH sW lt y x : Nat} {P : Nat → Nat → Nat} (h : IPto w R sH sW lt y x P) (hk : Kept [] w w') : IPto w' R sH sW lt y x P :=
  ⟨hk.blk h.rows (by simp), fun j hj => hk.blk (h.row j hj) (by simp), hk.blk h.cur (by simp), h.low⟩
set_option maxRecDepth 100000 in
set_option maxHeartbeats 8000000 in
theorem points_c {w : World} {D cap W H lt sW sH : Nat} {gs : List Nat} {rest : List Value} {f : Nat → Nat → Bool} (hd : Blk w D (gs.map u8c ++ rest) 5) (hl : gs.length = H * W)
    (hat : ∀ y x, y < H → x < W → gs[y * W + x]? = some (if f y x then 0 else lt)) (hlt : lt < 256) (hlt1 : 128 ≤ lt)
    (self : Value) (hW : W ≤ 300) (hH : H ≤ 300) (hW1 : 40 ≤ W) (hH1 : 40 ≤ H) (hsW : sW = (W + 7) / 8) (hsH : sH = (H + 7) / 8) :
    Calls Tryz.prog 320 #[self, .slice (some ⟨D, 0, none⟩) gs.length cap, .int .i64 (sW : Int), .int .i64 (sH : Int), .int .i64 (W : Int), .int .i64 (H : Int)] w fun e w' =>
      (∃ R P, e = .returned (slv R sH sH) ∧ IP w' R sH sW lt P ∧ w.heap.size ≤ R ∧ R + sH < w'.heap.size) ∧ Kept [] w w' := by
  have hlen9 : gs.length ≤ 90000 := by rw [hl]; exact Nat.le_trans (Nat.mul_le_mul hH hW) (by omega)
  have i1 : (W : Int) ≤ 300 := by omega
  have i2 : (H : Int) ≤ 300 := by omega
  have i3 : (40 : Int) ≤ W := by omega
  have i4 : (40 : Int) ≤ H := by omega
  have i7 : (sW : Int) ≤ 38 := by omega
  have i8 : (sH : Int) ≤ 38 := by omega
  have s9 : sW ≤ 38 := by omega
  have t9 : sH ≤ 38 := by omega
  have hmk := mk_rows_int (sH : Int) (sH : Int) sH sH rfl rfl (by omega) (by omega)
  have hmr := mk_ints (sW : Int) (sW : Int) sW sW rfl rfl (by omega) (by omega)
  have hb0 := Blk.new w (List.replicate sH (Value.slice none 0 0)) 157
  rw [show (List.replicate sH (Value.slice none 0 0)).toArray = Array.replicate sH (Value.slice none 0 0) from by simp] at hb0
  have hk0 : Kept [] w (w.alloc (.cells (Array.replicate sH (Value.slice none 0 0)) 157)) := (Kept.refl _ _).alloc _
  obtain ⟨R, hR⟩ : ∃ R, w.heap.size = R := ⟨_, rfl⟩
  have hs0 : (w.alloc (.cells (Array.replicate sH (Value.slice none 0 0)) 157)).heap.size = R + 1 := by simp [hR]
  rw [hR] at hb0
  have HR := Lib.hid hR
  have HD := Lib.hid hd
  have HL := Lib.hid hl
  have HSW := Lib.hid hsW
  have HSH := Lib.hid hsH
  have hDR : Hid (D < R) := Lib.hid (by rw [← hR]; exact hd.lt)
  have hw8 : (W : Int) - 8 = ((W - 8 : Nat) : Int) := by omega
  have hh8 : (H : Int) - 8 = ((H - 8 : Nat) : Int) := by omega
  obtain ⟨mw, hmw⟩ : ∃ m, W - 8 = m := ⟨_, rfl⟩
  obtain ⟨mh, hmh⟩ : ∃ m, H - 8 = m := ⟨_, rfl⟩
  rw [hmw] at hw8
  rw [hmh] at hh8
  have HMW := Lib.hid hmw
  have HMH := Lib.hid hmh
  clear hd hl hsW hsH hmw hmh
  go_enter Tryz.func320, Tryz.ntmps320
  go_wp2_with fail
  generalize (w.alloc (.cells (Array.replicate sH (Value.slice none 0 0)) 157)) = W0 at hb0 hk0 hs0 ⊢
  have HK0 := Lib.hid hk0
  have HS0 := Lib.hid hs0
  clear hR hk0 hs0 hmk
  go_loopw [16] (fun s16 wr => ∃ (y : Nat) (P : Nat → Nat → Nat), y ≤ sH ∧ s16 = .int .i64 (y : Int) ∧ wr.heap.size = R + 1 + y ∧ Blk wr R (rowOf sH fun j => if j < y then slv (R + 1 + j) sW sW else .slice none 0 0) 157 ∧
    (∀ j, j < y → Blk wr (R + 1 + j) (rowOf sW fun i => .int .i64 (P j i : Int)) 3) ∧ (∀ j i, j < y → i < sW → P j i < lt) ∧ Kept [R] W0 wr) (fun s _ => (sH - intOf s).toNat)
  case atStart => exact ⟨0, fun _ _ => 0, by omega, rfl, HS0.out, by simpa [rowOf_const] using hb0, by intro j hj; omega, by intro j i hj; omega, Kept.refl _ _⟩
  case round =>
    obtain ⟨y, P, hy, rfl, hs, hb, hrow, hlow, hk⟩ := hrel
    by_cases hlty : y < sH
    · have hi : (y : Int) < sH := by omega
      have y9 : (y : Int) ≤ 38 := by omega
      have hfr := hb.free y
      have hc0 := hb.at (rowOf_get _ hlty)
      simp only [Nat.lt_irrefl, if_false] at hc0
      have hRlt : R < R + 1 + y := by omega
      have hne : R ≠ R + 1 + y := by omega
      have B1 : Blk ((wr.setCell ⟨R, y, none⟩ (slv (R + 1 + y) sW sW)).alloc (.cells (Array.replicate sW (.int .i64 0)) 3)) R (rowOf sH fun j => if j < y + 1 then slv (R + 1 + j) sW sW else .slice none 0 0) 157 := by
        have h2 := (hb.set y (slv (R + 1 + y) sW sW)).alloc (.cells (Array.replicate sW (.int .i64 0)) 3)
        rw [rowOf_set] at h2
        rw [rowOf_congr (g := fun j => if j = y then slv (R + 1 + y) sW sW else if j < y then slv (R + 1 + j) sW sW else .slice none 0 0)]
        · exact h2
        · intro j _; by_cases e : j = y
          · subst e; simp
          · simp [e, show (j < y + 1) = (j < y) from by simp; omega]
      have B2 : Blk ((wr.setCell ⟨R, y, none⟩ (slv (R + 1 + y) sW sW)).alloc (.cells (Array.replicate sW (.int .i64 0)) 3)) (R + 1 + y) (rowOf sW fun i => .int .i64 (if i < 0 then (P y i : Int) else 0)) 3 := by
        have h3 := Blk.new (wr.setCell ⟨R, y, none⟩ (slv (R + 1 + y) sW sW)) (rowOf sW fun _ => .int .i64 0) 3
        rw [World.size_setCell, hs] at h3
        rw [show (Array.replicate sW (Value.int .i64 0)) = (rowOf sW fun _ => .int .i64 0).toArray from by rw [← rowOf_const]; simp]
        simpa using h3
      have B3 : ∀ j, j < y → Blk ((wr.setCell ⟨R, y, none⟩ (slv (R + 1 + y) sW sW)).alloc (.cells (Array.replicate sW (.int .i64 0)) 3)) (R + 1 + j) (rowOf sW fun i => .int .i64 (P j i : Int)) 3 :=
        fun j hj => ((hrow j hj).set_other (by simp; omega) _).alloc _
      have B4 : Kept [R] W0 ((wr.setCell ⟨R, y, none⟩ (slv (R + 1 + y) sW sW)).alloc (.cells (Array.replicate sW (.int .i64 0)) 3)) := (hk.setCell (by simp) _).alloc _
      have B5 : Hid (((wr.setCell ⟨R, y, none⟩ (slv (R + 1 + y) sW sW)).alloc (.cells (Array.replicate sW (.int .i64 0)) 3)).heap.size = R + 1 + (y + 1)) := Lib.hid (by simp [hs]; omega)
      obtain ⟨yo, hyo⟩ : ∃ yo, min (8 * y) (H - 8) = yo := ⟨_, rfl⟩
      have HYO := Lib.hid hyo
      have yo9 : (yo : Int) ≤ 300 := by omega
      clear hyo
      go_upto_if 50 with fail
      generalize ((wr.setCell ⟨R, y, none⟩ (slv (R + 1 + y) sW sW)).alloc (.cells (Array.replicate sW (.int .i64 0)) 3)) = w2 at B1 B2 B3 B4 B5 ⊢
      have HB4 := Lib.hid B4
      clear hb hc0 hfr hs hrow hmr hk B4
      go_cut [17] from 48 to 52 (fun v wx => v = .int .i64 (yo : Int) ∧ w2 = wx)
      case first =>
        by_cases h : mh < 8 * y
        · have hi2 : (mh : Int) < (y : Int) * 8 := by omega
          have e : Hid (mh = yo) := Lib.hid (by have := HYO.out; have := HMH.out; omega)
          go_wp2_with fail
          go_meet
          exact ⟨by rw [e.out], rfl⟩
        · have hi2 : ¬ (mh : Int) < (y : Int) * 8 := by omega
          have e : Hid ((y : Int) * 8 = yo) := Lib.hid (by have := HYO.out; have := HMH.out; omega)
          go_wp2_with fail
          go_meet
          exact ⟨by rw [e.out], rfl⟩
      case rest =>
        obtain ⟨rfl, rfl⟩ := hcut
        go_wp2_with fail
        go_loopw [18] (fun s18 wq => ∃ (x : Nat) (P : Nat → Nat → Nat), x ≤ sW ∧ s18 = .int .i64 (x : Int) ∧ IPto wq R sH sW lt y x P ∧ Kept [R] W0 wq ∧ wq.heap.size = R + 1 + (y + 1)) (fun s _ => (sW - intOf s).toNat)
        case atStart => exact ⟨0, P, by omega, rfl, ⟨B1, B3, B2, fun j i h1 h2 => hlow j i (by omega) h2⟩, HB4.out, B5.out⟩
        case round =>
          clear B1 B2 B3
          obtain ⟨x, P2, hx, rfl, hip, hk2, hsz⟩ := hrel
          have HIP := Lib.hid hip
          have HK2 := Lib.hid hk2
          have HSZ := Lib.hid hsz
          clear hip hk2 hsz
          by_cases hltx : x < sW
          · have hix : (x : Int) < sW := by omega
            obtain ⟨w5, rfl⟩ : ∃ w5 : World, w5 = wr := ⟨_, rfl⟩
            obtain ⟨xo, hxo⟩ : ∃ xo, min (8 * x) (W - 8) = xo := ⟨_, rfl⟩
            have HXO := Lib.hid hxo
            have xo9 : (xo : Int) ≤ 300 := by omega
            have x9 : (x : Int) ≤ 38 := by omega
            clear hxo
            go_upto_if 61 with fail
            go_cut [19] from 59 to 63 (fun v wx => v = .int .i64 (xo : Int) ∧ w5 = wx)
            case first =>
              by_cases h : mw < 8 * x
              · have hi2 : (mw : Int) < (x : Int) * 8 := by omega
                have e : Hid (mw = xo) := Lib.hid (by have := HXO.out; have := HMW.out; omega)
                go_wp2_with fail
                go_meet
                exact ⟨by rw [e.out], rfl⟩
              · have hi2 : ¬ (mw : Int) < (x : Int) * 8 := by omega
                have e : Hid ((x : Int) * 8 = xo) := Lib.hid (by have := HXO.out; have := HMW.out; omega)
                go_wp2_with fail
                go_meet
                exact ⟨by rw [e.out], rfl⟩
            case rest =>
              obtain ⟨rfl, rfl⟩ := hcut
              obtain ⟨o, ho⟩ : ∃ o, yo * W = o := ⟨_, rfl⟩
              have hoi : (yo : Int) * (W : Int) = (o : Int) := by rw [← ho]; simp
              have o9 : o ≤ 90000 := by rw [← ho]; exact Nat.le_trans (Nat.mul_le_mul (show yo ≤ 300 by omega) hW) (by omega)
              have o9i : (o : Int) ≤ 90000 := by omega
              have HO := Lib.hid ho
              clear ho
              go_wp2_with fail
              go_loopw [20, 21, 22, 23, 24] (fun s20 s21 s22 s23 s24 wr => ∃ (yy sm mn mx : Nat) (off : Int), yy ≤ 9 ∧ s20 = .int .i64 (sm : Int) ∧ s21 = .int .i64 (mn : Int) ∧ s22 = .int .i64 (mx : Int) ∧ s23 = .int .i64 (yy : Int) ∧ s24 = .int .i64 off ∧
                (yy < 8 → off = (((yo + yy) * W + xo : Nat) : Int)) ∧ -100000 ≤ off ∧ off ≤ 100000 ∧ Avg lt (min (8 * yy) 64) sm mn mx ∧ w5 = wr) (fun _ _ _ s _ _ => (9 - intOf s).toNat)
              case atStart => exact ⟨0, 0, 255, 0, (o : Int) + xo, by omega, rfl, rfl, rfl, rfl, by go_num, fun _ => by rw [Nat.add_zero, HO.out]; omega, by omega, by omega, Avg.start lt (by omega), rfl⟩
              case round =>
                obtain ⟨yy, sm, mn, mx, off, hyy, rfl, rfl, rfl, rfl, rfl, hoff, of1, of2, hav, rfl⟩ := hrel
                have HAV := Lib.hid hav
                have hD5 : Hid (Blk w5 D (gs.map u8c ++ rest) 5) := Lib.hid (HK2.out.blk (HK0.out.blk HD.out (by simp)) (by have := hDR.out; simp; omega))
                have sm9 : sm ≤ 25600 := by
                  have h1 := HAV.out.sum
                  have h2 : min (8 * yy) 64 * lt ≤ 64 * 256 := Nat.mul_le_mul (by omega) (by omega)
                  omega
                have mn9 : mn ≤ 255 := HAV.out.least
                have mx9 : mx ≤ lt := HAV.out.most
                have sm9i : (sm : Int) ≤ 25600 := by omega
                have mn9i : (mn : Int) ≤ 255 := by omega
                have mx9i : (mx : Int) ≤ 255 := by omega
                clear hav sm9 mn9 mx9
                by_cases hlt8 : yy < 8
                · have iy8 : (yy : Int) < 8 := by omega
                  have hoff8 := hoff hlt8
                  obtain ⟨b0, hb0⟩ : ∃ b, (yo + yy) * W + xo = b := ⟨_, rfl⟩
                  rw [hb0] at hoff8
                  subst hoff8
                  have HB0 := Lib.hid hb0
                  have hyH : yo + yy < H := by have := HYO.out; omega
                  have hrow9 : (yo + yy) * W + W ≤ gs.length := by rw [HL.out, ← Nat.succ_mul]; exact Nat.mul_le_mul_right _ hyH
                  have hxW8 : xo + 8 ≤ W := by have := HXO.out; omega
                  have hp9 : b0 + 8 ≤ gs.length := by omega
                  have b9i : (b0 : Int) ≤ 90000 := by omega
                  have HAV0 : Hid (Avg lt (8 * yy + 0) sm mn mx) := Lib.hid (by have := HAV.out; rw [Nat.min_eq_left (by omega)] at this; exact this)
                  clear hb0 hoff hrow9
                  go_wp2_with fail
                  go_loopw [20, 21, 22, 25] (fun s20 s21 s22 s25 wr => ∃ (xx sm mn mx : Nat), xx ≤ 8 ∧ s20 = .int .i64 (sm : Int) ∧ s21 = .int .i64 (mn : Int) ∧ s22 = .int .i64 (mx : Int) ∧ s25 = .int .i64 (xx : Int) ∧ Avg lt (8 * yy + xx) sm mn mx ∧ w5 = wr) (fun _ _ _ s _ => (8 - intOf s).toNat)
                  case atStart => exact ⟨0, sm, mn, mx, by omega, rfl, rfl, rfl, rfl, HAV0.out, rfl⟩
                  case round =>
                    clear HAV0 HAV sm9i mn9i mx9i
                    obtain ⟨xx, s1, m1, m2, hxx, rfl, rfl, rfl, rfl, hav, rfl⟩ := hrel
                    have HAV1 := Lib.hid hav
                    have sm9 : s1 ≤ 25600 := by
                      have h1 := HAV1.out.sum
                      have h2 : (8 * yy + xx) * lt ≤ 64 * 256 := Nat.mul_le_mul (by omega) (by omega)
                      omega
                    have mn9 : m1 ≤ 255 := HAV1.out.least
                    have mx9 : m2 ≤ lt := HAV1.out.most
                    have sm9i : (s1 : Int) ≤ 25600 := by omega
                    have mn9i : (m1 : Int) ≤ 255 := by omega
                    have mx9i : (m2 : Int) ≤ 255 := by omega
                    clear hav sm9 mn9 mx9
                    by_cases hltx8 : xx < 8
                    · have ixx : (xx : Int) < 8 := by omega
                      obtain ⟨p, hp⟩ : ∃ p, (if f (yo + yy) (xo + xx) then 0 else lt) = p := ⟨_, rfl⟩
                      have hp01 : p = 0 ∨ p = lt := by rw [← hp]; split <;> simp
                      have hcell : w5.cell? ⟨D, b0 + xx, none⟩ = some (.int .u8 (p : Int)) := hD5.out.at (by
                        rw [List.getElem?_append_left (by rw [List.length_map]; omega), List.getElem?_map, ← HB0.out, Nat.add_assoc, hat _ _ hyH (by omega), hp]; rfl)
                      have p9 : p ≤ 255 := by omega
                      have p9i : (p : Int) ≤ 255 := by omega
                      have p1 := and255 p (by omega)
                      have HST := Lib.hid (HAV1.out.step hp01 (by omega))
                      have HP01 := Lib.hid hp01
                      clear hp hp01 p9
                      by_cases h1 : p < m1
                      all_goals by_cases h2 : m2 < p
                      · have j1 : (p : Int) < m1 := by omega
                        have j2 : (m2 : Int) < p := by omega
                        have HS2 : Hid (Avg lt (8 * yy + xx + 1) (s1 + p) p p) := Lib.hid (by have := HST.out; rw [if_pos h1, if_pos h2] at this; exact this)
                        go_wp2_with fail
                        go_roundw
                        case rel => exact ⟨xx + 1, s1 + p, p, p, by omega, by go_num, rfl, rfl, by go_num, HS2.out, (by first | rfl | trivial)⟩
                        case measure => simp [intOf]; omega
                      · have j1 : (p : Int) < m1 := by omega
                        have j2 : ¬ (m2 : Int) < p := by omega
                        have HS2 : Hid (Avg lt (8 * yy + xx + 1) (s1 + p) p m2) := Lib.hid (by have := HST.out; rw [if_pos h1, if_neg h2] at this; exact this)
                        go_wp2_with fail
                        go_roundw
                        case rel => exact ⟨xx + 1, s1 + p, p, m2, by omega, by go_num, rfl, rfl, by go_num, HS2.out, (by first | rfl | trivial)⟩
                        case measure => simp [intOf]; omega
                      · have j1 : ¬ (p : Int) < m1 := by omega
                        have j2 : (m2 : Int) < p := by omega
                        have HS2 : Hid (Avg lt (8 * yy + xx + 1) (s1 + p) m1 p) := Lib.hid (by have := HST.out; rw [if_neg h1, if_pos h2] at this; exact this)
                        go_wp2_with fail
                        go_roundw
                        case rel => exact ⟨xx + 1, s1 + p, m1, p, by omega, by go_num, rfl, rfl, by go_num, HS2.out, (by first | rfl | trivial)⟩
                        case measure => simp [intOf]; omega
                      · have j1 : ¬ (p : Int) < m1 := by omega
                        have j2 : ¬ (m2 : Int) < p := by omega
                        have HS2 : Hid (Avg lt (8 * yy + xx + 1) (s1 + p) m1 m2) := Lib.hid (by have := HST.out; rw [if_neg h1, if_neg h2] at this; exact this)
                        go_wp2_with fail
                        go_roundw
                        case rel => exact ⟨xx + 1, s1 + p, m1, m2, by omega, by go_num, rfl, rfl, by go_num, HS2.out, (by first | rfl | trivial)⟩
                        case measure => simp [intOf]; omega
                    · obtain rfl : xx = 8 := by omega
                      by_cases hd : m1 + 24 < m2
                      · have hdi : (24 : Int) < (m2 : Int) - m1 := by omega
                        have HN : Hid (yy + 1 < 8 → (b0 : Int) + W = (((yo + (yy + 1)) * W + xo : Nat) : Int)) := Lib.hid (fun _ => by rw [← HB0.out, show yo + (yy + 1) = (yo + yy) + 1 by omega, Nat.succ_mul]; omega)
                        go_wp2_with fail
                        go_loopw [20, 23, 24] (fun s20 s23 s24 wr => ∃ (y2 sm : Nat) (off : Int), y2 ≤ 8 ∧ yy + 1 ≤ y2 ∧ s20 = .int .i64 (sm : Int) ∧ s23 = .int .i64 (y2 : Int) ∧ s24 = .int .i64 off ∧
                          (y2 < 8 → off = (((yo + y2) * W + xo : Nat) : Int)) ∧ -100000 ≤ off ∧ off ≤ 95000 ∧ Avg lt (8 * y2) sm m1 m2 ∧ w5 = wr) (fun _ s _ _ => (8 - intOf s).toNat)
                        case atStart => exact ⟨yy + 1, s1, (b0 : Int) + W, by omega, by omega, rfl, by go_num, rfl, HN.out, by omega, by omega, HAV1.out, rfl⟩
                        case round =>
                          clear HN
                          obtain ⟨y2, s2, off2, hy2, hy3, rfl, rfl, rfl, hof2, of3, of4, hav2, rfl⟩ := hrel
                          have HAV2 := Lib.hid hav2
                          have sm9 : s2 ≤ 25600 := by
                            have h1 := HAV2.out.sum
                            have h2 : (8 * y2) * lt ≤ 64 * 256 := Nat.mul_le_mul (by omega) (by omega)
                            omega
                          have s29i : (s2 : Int) ≤ 25600 := by omega
                          clear hav2 sm9
                          by_cases hlty2 : y2 < 8
                          · have iy2 : (y2 : Int) < 8 := by omega
                            have hof8 := hof2 hlty2
                            obtain ⟨b2, hb2⟩ : ∃ b, (yo + y2) * W + xo = b := ⟨_, rfl⟩
                            rw [hb2] at hof8
                            subst hof8
                            have HB2 := Lib.hid hb2
                            have hyH2 : yo + y2 < H := by have := HYO.out; omega
                            have hrow9 : (yo + y2) * W + W ≤ gs.length := by rw [HL.out, ← Nat.succ_mul]; exact Nat.mul_le_mul_right _ hyH2
                            have hp92 : b2 + 8 ≤ gs.length := by omega
                            have b92i : (b2 : Int) ≤ 90000 := by omega
                            clear hb2 hof2 hrow9
                            go_wp2_with fail
                            go_loopw [20, 27] (fun s20 s27 wr => ∃ (xx sm : Nat), xx ≤ 8 ∧ s20 = .int .i64 (sm : Int) ∧ s27 = .int .i64 (xx : Int) ∧ Avg lt (8 * y2 + xx) sm m1 m2 ∧ w5 = wr) (fun _ s _ => (8 - intOf s).toNat)
                            case atStart => exact ⟨0, s2, by omega, rfl, rfl, HAV2.out, rfl⟩
                            case round =>
                              clear HAV2 s29i
                              obtain ⟨xx, s3, hxx3, rfl, rfl, hav3, rfl⟩ := hrel
                              have HAV3 := Lib.hid hav3
                              have sm9 : s3 ≤ 25600 := by
                                have h1 := HAV3.out.sum
                                have h2 : (8 * y2 + xx) * lt ≤ 64 * 256 := Nat.mul_le_mul (by omega) (by omega)
                                omega
                              have s39i : (s3 : Int) ≤ 25600 := by omega
                              clear hav3 sm9
                              by_cases hltx8 : xx < 8
                              · have ixx : (xx : Int) < 8 := by omega
                                obtain ⟨p, hp⟩ : ∃ p, (if f (yo + y2) (xo + xx) then 0 else lt) = p := ⟨_, rfl⟩
                                have hp01 : p = 0 ∨ p = lt := by rw [← hp]; split <;> simp
                                have hcell : w5.cell? ⟨D, b2 + xx, none⟩ = some (.int .u8 (p : Int)) := hD5.out.at (by
                                  rw [List.getElem?_append_left (by rw [List.length_map]; omega), List.getElem?_map, ← HB2.out, Nat.add_assoc, hat _ _ hyH2 (by omega), hp]; rfl)
                                have p9 : p ≤ 255 := by omega
                                have p9i : (p : Int) ≤ 255 := by omega
                                have p1 := and255 p (by omega)
                                have HST := Lib.hid (HAV3.out.more hp01)
                                clear hp hp01 p9
                                go_wp2_with fail
                                go_roundw
                                case rel => exact ⟨xx + 1, s3 + p, by omega, by go_num, by go_num, HST.out, (by first | rfl | trivial)⟩
                                case measure => simp [intOf]; omega
                              · obtain rfl : xx = 8 := by omega
                                have HN : Hid (y2 + 1 < 8 → (b2 : Int) + W = (((yo + (y2 + 1)) * W + xo : Nat) : Int)) := Lib.hid (fun _ => by rw [← HB2.out, show yo + (y2 + 1) = (yo + y2) + 1 by omega, Nat.succ_mul]; omega)
                                go_wp2_with fail
                                go_roundw
                                case rel => exact ⟨y2 + 1, s3, (b2 : Int) + W, by omega, by omega, rfl, by go_num, rfl, HN.out, by omega, by omega, HAV3.out, (by first | rfl | trivial)⟩
                                case measure => simp [intOf]; omega
                          · obtain rfl : y2 = 8 := by omega
                            clear hof2
                            go_wp2_with fail
                            go_roundw
                            case rel => exact ⟨9, s2, m1, m2, off2 + W, by omega, rfl, rfl, rfl, rfl, rfl, fun h => by omega, by omega, by omega, HAV2.out, (by first | rfl | trivial)⟩
                            case measure => simp [intOf]; omega
                      · have hdi : ¬ (24 : Int) < (m2 : Int) - m1 := by omega
                        have HN : Hid (yy + 1 < 8 → (b0 : Int) + W = (((yo + (yy + 1)) * W + xo : Nat) : Int)) := Lib.hid (fun _ => by rw [← HB0.out, show yo + (yy + 1) = (yo + yy) + 1 by omega, Nat.succ_mul]; omega)
                        have HAVN : Hid (Avg lt (min (8 * (yy + 1)) 64) s1 m1 m2) := Lib.hid (by rw [Nat.min_eq_left (by omega)]; exact HAV1.out)
                        go_wp2_with fail
                        go_roundw
                        case rel => exact ⟨yy + 1, s1, m1, m2, (b0 : Int) + W, by omega, rfl, rfl, rfl, by go_num, rfl, HN.out, by omega, by omega, HAVN.out, (by first | rfl | trivial)⟩
                        case measure => simp [intOf]; omega
                · have HAV8 : Hid (Avg lt 64 sm mn mx) := Lib.hid (by have := HAV.out; rw [Nat.min_eq_right (by omega)] at this; exact this)
                  have iy8 : ¬ (yy : Int) < 8 := by omega
                  clear hoff HAV
                  obtain ⟨av, hav6⟩ : ∃ a, sm / 64 = a := ⟨_, rfl⟩
                  have hai : (sm : Int) / 64 = (av : Int) := by omega
                  have HAI := Lib.hid hav6
                  clear hav6
                  go_upto_if 133 with fail
                  go_cut [28, 29] from 130 to 174 (fun v u wx => ∃ a : Nat, a < lt ∧ v = .int .i64 (a : Int) ∧ Kept [] w5 wx ∧ wx.heap.size = R + 1 + (y + 1))
                  case first =>
                    by_cases hd : mn + 24 < mx
                    · have hdi : ¬ (mx : Int) - mn ≤ 24 := by omega
                      have hbl := HAV8.out.below hd
                      have HA : Hid (av < lt) := Lib.hid (by rw [← HAI.out]; exact hbl)
                      clear hbl
                      go_wp2_with fail
                      go_meet
                      exact ⟨av, HA.out, rfl, Kept.refl _ _, HSZ.out⟩
                    · have hdi : (mx : Int) - mn ≤ 24 := by omega
                      obtain ⟨m2, hm2⟩ : ∃ a, mn / 2 = a := ⟨_, rfl⟩
                      have hmi : (mn : Int) / 2 = (m2 : Int) := by omega
                      have HM2 : Hid (m2 < lt) := Lib.hid (by omega)
                      clear hm2
                      by_cases hy0 : 0 < y
                      · have hy0i : (0 : Int) < y := by omega
                        by_cases hx0 : 0 < x
                        · have hx0i : (0 : Int) < x := by omega
                          obtain ⟨y1, hy1⟩ : ∃ y1, y - 1 = y1 := ⟨_, rfl⟩
                          obtain ⟨x1, hx1⟩ : ∃ x1, x - 1 = x1 := ⟨_, rfl⟩
                          have ey : (y : Int) - 1 = (y1 : Int) := by omega
                          have ex : (x : Int) - 1 = (x1 : Int) := by omega
                          have y1y : y1 < y := by omega
                          have x1x : x1 < x := by omega
                          have r0 := HIP.out.rows.at (rowOf_get _ (show y1 < sH by omega))
                          have r1 := HIP.out.rows.at (rowOf_get _ hlty)
                          rw [if_pos (show y1 < y + 1 by omega)] at r0
                          rw [if_pos (show y < y + 1 by omega)] at r1
                          have c0 := (HIP.out.row y1 y1y).at (rowOf_get (n := sW) (f := fun i => .int .i64 (P2 y1 i : Int)) hltx)
                          have c1 := (HIP.out.row y1 y1y).at (rowOf_get (n := sW) (f := fun i => .int .i64 (P2 y1 i : Int)) (show x1 < sW by omega))
                          have c2 := HIP.out.cur.at (rowOf_get (n := sW) (f := fun i => .int .i64 (if i < x then (P2 y i : Int) else 0)) (show x1 < sW by omega))
                          rw [if_pos x1x] at c2
                          have v0 := HIP.out.low y1 x (.inl y1y) hltx
                          have v1 := HIP.out.low y1 x1 (.inl y1y) (by omega)
                          have v2 := HIP.out.low y x1 (.inr ⟨rfl, x1x⟩) (by omega)
                          generalize P2 y1 x = p0 at c0 v0
                          generalize P2 y1 x1 = p1 at c1 v1
                          generalize P2 y x1 = p2 at c2 v2
                          have u0 : (p0 : Int) ≤ 255 := by omega
                          have u1 : (p1 : Int) ≤ 255 := by omega
                          have u2 : (p2 : Int) ≤ 255 := by omega
                          obtain ⟨nb, hnb⟩ : ∃ a, (p0 + 2 * p2 + p1) / 4 = a := ⟨_, rfl⟩
                          have hnbi : ((p0 : Int) + 2 * (p2 : Int) + (p1 : Int)) / 4 = (nb : Int) := by omega
                          have HNB : Hid (nb < lt) := Lib.hid (by omega)
                          have y1i : (y1 : Int) < sH := by omega
                          have x1i : (x1 : Int) < sW := by omega
                          have hRi : R ≠ R + 1 + y1 := by omega
                          clear hy1 hx1 hnb y1y x1x v0 v1 v2
                          by_cases hmn : mn < nb
                          · have hmni : (mn : Int) < nb := by omega
                            go_wp2_with fail
                            go_quiet (fail)
                            go_wp2_with fail
                            go_meet
                            exact ⟨nb, HNB.out, by first | rfl | rw [hnbi], (Kept.refl _ _).drewN _, HSZ.out⟩
                          · have hmni : ¬ (mn : Int) < nb := by omega
                            go_wp2_with fail
                            go_quiet (fail)
                            go_wp2_with fail
                            go_meet
                            exact ⟨m2, HM2.out, rfl, (Kept.refl _ _).drewN _, HSZ.out⟩
                        · have hx0i : ¬ (0 : Int) < x := by omega
                          go_wp2_with fail
                          go_meet
                          exact ⟨m2, HM2.out, rfl, Kept.refl _ _, HSZ.out⟩
                      · have hy0i : ¬ (0 : Int) < y := by omega
                        go_wp2_with fail
                        go_meet
                        exact ⟨m2, HM2.out, rfl, Kept.refl _ _, HSZ.out⟩
                  case rest =>
                    obtain ⟨a, ha, rfl, hk6, hsz6⟩ := hcut
                    have HI6 := Lib.hid (HIP.out.keeps hk6)
                    have HK6 := Lib.hid (HK2.out.trans0 hk6)
                    have HSZ6 := Lib.hid hsz6
                    have HP7 := Lib.hid (HI6.out.put ha)
                    have rr := HI6.out.rows.at (rowOf_get _ hlty)
                    rw [if_pos (Nat.lt_succ_self y)] at rr
                    have cx := HI6.out.cur.at (rowOf_get _ hltx)
                    have fx := HI6.out.cur.free x
                    have K7 := Lib.hid (HK6.out.setCell (p := ⟨R + 1 + y, x, none⟩) (.inr (by have := HS0.out; show _ ≤ R + 1 + y; omega)) (.int .i64 (a : Int)))
                    clear hk6 hsz6 hai
                    go_wp2_with fail
                    go_roundw
                    case rel => exact ⟨x + 1, _, by omega, by go_num, HP7.out, K7.out, by rw [World.size_setCell]; exact HSZ6.out⟩
                    case measure => simp [intOf]; omega
          · obtain rfl : x = sW := by omega
            go_wp2_with fail
            go_roundw
            case rel => exact ⟨y + 1, P2, by omega, by go_num, HSZ.out, HIP.out.rows, fun j hj => by
              rcases Nat.lt_or_ge j y with h | h
              · exact HIP.out.row j h
              · obtain rfl : j = y := by omega
                rw [rowOf_congr (g := fun i => .int .i64 (if i < x then (P2 j i : Int) else 0)) (fun i hi => by simp [hi])]
                exact HIP.out.cur, fun j i h1 h2 => HIP.out.low j i (by omega) h2, HK2.out⟩
            case measure => simp [intOf]; omega
    · obtain rfl : y = sH := by omega
      have HS := Lib.hid hs
      have HB := Lib.hid hb
      clear hs hb
      go_wp2_with fail
      go_ret
      refine ⟨⟨R, P, rfl, ⟨?_, hrow, fun a b h1 h2 => hlow a b h1 h2⟩, by have := HR.out; omega, by have := HS.out; omega⟩, ?_⟩
      · rw [rowOf_congr (g := fun j => if j < y then slv (R + 1 + j) sW sW else .slice none 0 0) (fun j hj => by simp [hj])]
        exact HB.out
      · exact HK0.out.trans hk (fun z hz hl => by have := HR.out; simp at hz; omega)
end

section
set_option maxRecDepth 100000 in
set_option maxHeartbeats 4000000 in
theorem blackHybrid_c {w : World} (v : Value) (base W H lt : Nat) (f : Nat → Nat → Bool) (hg : GR w base 5 v ((grayList f W 0 lt (H * W)).map u8c)) (hW1 : 40 ≤ W) (hW2 : W ≤ 300) (hH1 : 40 ≤ H) (hH2 : H ≤ 300)
    (h1 : 128 ≤ lt) (h2 : lt < 256) :
    Calls Tryz.prog 16 #[.int .i64 (W : Int), .int .i64 (H : Int), v, .bool true] w fun e w' =>
      (∃ G C ws, e = .returned (ptv G) ∧ GM w' G C W H ((W + 31) / 32) ws (fun y x => decide (x < W) && f y x) ∧ w.heap.size ≤ G ∧ w.heap.size ≤ C) ∧ Kept [] w w' := by
  have HS0 := Lib.hid (source_c v _ base hg W H (by omega) (by omega) hW2 hH2 (grayList_len _ _ _ _ _) (grayList_lt _ _ _ _ _ (by omega) h2))
  clear hg
  go_enter Tryz.func16, Tryz.ntmps16
  go_wp2_with fail
  refine HS0.out.mono ?_
  rintro e w1 ⟨⟨S, D, cap, rfl, hs, _, _⟩, k1⟩
  have HS := Lib.hid hs
  have HK1 := Lib.hid k1
  clear hs k1 HS0
  go_wp2_with fail
  refine (newGlobal_c _ 228 _ rfl).mono ?_
  rintro e w2 ⟨⟨B0, L0, K0, rfl, _, _, _, _⟩, k2⟩
  have HS2 := Lib.hid (HS.out.kept k2 (by simp) (by simp))
  have HK2 := Lib.hid (HK1.out.trans0 k2)
  clear k2
  go_wp2_with fail
  refine (newHybrid_c _ 228 _ rfl).mono ?_
  rintro e w3 ⟨⟨Y, B, L, K, rfl, hy, hb, hk, l1, l2, l3⟩, k3⟩
  have hs3 := HS2.out.kept k3 (by simp) (by simp)
  have hat : ∀ y x, y < H → x < W → (grayList f W 0 lt (H * W))[y * W + x]? = some (if f y x then 0 else lt) := fun y x a b => grayList_at f W H 0 lt y x a b
  obtain ⟨rest, hdat⟩ := hs3.data
  have HBL := Lib.hid (hybridBlack_g hy hb hs3 hat h1 h2 hW2 hH2 hW1 hH1 rfl rfl (points_c (cap := cap) hdat hs3.len hat h2 h1 (ptv Y) hW2 hH2 hW1 hH1 rfl rfl))
  have HK3 := Lib.hid (HK2.out.trans0 k3)
  have hsz := Lib.hid HK2.out.size
  have L1 := Lib.hid l1
  have mb := m_blackh Y
  clear hy hb hk l1 l2 l3 k3 hs3 hat hdat
  go_wp2_with fail
  refine HBL.out.mono ?_
  rintro e w4 ⟨⟨G, C, ws, rfl, hg4, g1, g2⟩, k4⟩
  have HG4 := Lib.hid hg4
  have HK4 := Lib.hid k4
  have G1 := Lib.hid g1
  have G2 := Lib.hid g2
  clear hg4 k4 g1 g2 mb HBL
  go_wp2_with fail
  go_ret
  have z1 := HK3.out.size
  have z2 := hsz.out
  have z3 := L1.out
  have z4 := G1.out
  have z5 := G2.out
  exact ⟨⟨G, C, ws, rfl, HG4.out, by omega, by omega⟩, HK3.out.trans HK4.out (fun z hz hl => by simp at hz; omega)⟩
end
end Go.Proofs.YtplpafbkalkchaaGreatDoor
