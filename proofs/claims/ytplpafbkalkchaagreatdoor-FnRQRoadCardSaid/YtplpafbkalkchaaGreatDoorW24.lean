/- Walks: the data are laid in zigzag. Walks: a matrix is built. -/
import Derived.Test.YtplpafbkalkchaaGreatDoorW23
namespace Go.Proofs.YtplpafbkalkchaaGreatDoor
open Go Go.RowKit Go.Proofs
set_option linter.all false

section
abbrev Lay := Nat × (Nat → Nat → Int)
/-- A bit goes into the cell p (column, row), if it is empty. -/
def cell (bs : List Bool) (m : Nat) (st : Lay) (p : Nat × Nat) : Lay :=
  if st.2 p.2 p.1 = -1 then (if st.1 < bs.length then st.1 + 1 else st.1, upd st.2 p.2 p.1 (bit01 (bs.getD st.1 false != maskBit m p.1 p.2))) else st
def colX (n c : Nat) : Nat := if 6 < n - 1 - 2 * c then n - 1 - 2 * c else n - 2 - 2 * c
def rowY (n c t : Nat) : Nat := if c % 2 = 0 then n - 1 - t else t
def rowsOfCol (n c t : Nat) : List (Nat × Nat) := (List.range t).flatMap fun t => [(colX n c, rowY n c t), (colX n c - 1, rowY n c t)]
/-- The cells of the first c double columns, in their order. -/
def zig (n c : Nat) : List (Nat × Nat) := (List.range c).flatMap fun c => rowsOfCol n c n
theorem rowsOfCol_succ (n c t : Nat) : rowsOfCol n c (t + 1) = rowsOfCol n c t ++ [(colX n c, rowY n c t), (colX n c - 1, rowY n c t)] := by
  unfold rowsOfCol; rw [List.range_succ, List.flatMap_append]; rfl
theorem zig_succ (n c : Nat) : zig n (c + 1) = zig n c ++ rowsOfCol n c n := by
  unfold zig; rw [List.range_succ, List.flatMap_append]; simp
/-- What lies there after c columns and t rows of the next. -/
def laid (bs : List Bool) (m n : Nat) (M : Nat → Nat → Int) (c t : Nat) : Lay := (zig n c ++ rowsOfCol n c t).foldl (cell bs m) (0, M)
theorem laid_row (bs : List Bool) (m n : Nat) (M : Nat → Nat → Int) (c t : Nat) : laid bs m n M c (t + 1) = cell bs m (cell bs m (laid bs m n M c t) (colX n c, rowY n c t)) (colX n c - 1, rowY n c t) := by
  unfold laid; rw [rowsOfCol_succ, ← List.append_assoc, List.foldl_append]; rfl
theorem laid_col (bs : List Bool) (m n : Nat) (M : Nat → Nat → Int) (c : Nat) : laid bs m n M c n = laid bs m n M (c + 1) 0 := by
  unfold laid; rw [zig_succ]; simp [rowsOfCol]
theorem cell_le (bs : List Bool) (m : Nat) (st : Lay) (p : Nat × Nat) (h : st.1 ≤ bs.length) : (cell bs m st p).1 ≤ bs.length := by
  unfold cell; split
  · show (if _ then _ else _) ≤ _
    split
    · exact Nat.succ_le_of_lt ‹_›
    · exact h
  · exact h
theorem laid_le (bs : List Bool) (m n : Nat) (M : Nat → Nat → Int) (c t : Nat) : (laid bs m n M c t).1 ≤ bs.length := by
  unfold laid
  have : ∀ (l : List (Nat × Nat)) (st : Lay), st.1 ≤ bs.length → (l.foldl (cell bs m) st).1 ≤ bs.length := by
    intro l; induction l with
    | nil => intro st h; exact h
    | cons a l ih => intro st h; exact ih _ (cell_le bs m st a h)
  exact this _ _ (Nat.zero_le _)
/-- One cell of two: the first i of them are laid. -/
def inner (bs : List Bool) (m : Nat) (st : Lay) (x y : Nat) : Nat → Lay
  | 0 => st
  | i + 1 => cell bs m (inner bs m st x y i) (x - i, y)
theorem inner_le (bs : List Bool) (m : Nat) (st : Lay) (x y i : Nat) (h : st.1 ≤ bs.length) : (inner bs m st x y i).1 ≤ bs.length := by
  induction i with
  | zero => exact h
  | succ i ih => exact cell_le _ _ _ _ ih
def zigMeas (c n : Nat) (y : Int) : Nat := if c % 2 = 0 then (y + 1).toNat else ((n : Int) - y).toNat
set_option maxRecDepth 100000 in
set_option maxHeartbeats 8000000 in
theorem embedData_c {w : World} {B R n B2 C2 : Nat} {M : Nat → Nat → Int} {ws : List Nat} {bs : List Bool} (h : BM w B R n M) (ha : BA w B2 C2 ws bs) (m C : Nat) (hm : m < 8) (hC : n = 2 * C + 1) (hn20 : 20 ≤ n) (hn : n ≤ 200)
    (hall : (laid bs m n M C 0).1 = bs.length) :
    Calls Tryz.prog 128 #[ptv B2, .int .i64 (m : Int), ptv B] w fun e w' => e = .returned .nilIface ∧ BM w' B R n (laid bs m n M C 0).2 ∧ Kept (span (R + 1) n) w w' := by
  have hni : (n : Int) ≤ 200 := by omega
  have hn8 : (20 : Int) ≤ n := by omega
  have hL : bs.length ≤ 60800 := by have := ha.big; have := ha.few; omega
  have HL := Lib.hid hL; clear hL
  have hm1 : ¬ (m : Int) = -1 := by omega
  have HC := Lib.hid hC; clear hC
  have HALL := Lib.hid hall; clear hall
  go_enter Tryz.func128, Tryz.ntmps128
  go_wp2_with fail
  refine (width_c h).mono ?_
  rintro e w1 ⟨rfl, rfl⟩
  go_wp2_with fail
  refine (height_c h).mono ?_
  rintro e w1 ⟨rfl, rfl⟩
  go_wp2_with fail
  go_loopw [7, 8, 9, 10] (fun b d x y wr => ∃ (c : Nat) (xi d0 y0 : Int), c ≤ C ∧ b = intv (laid bs m n M c 0).1 ∧ d = .int .i64 d0 ∧ x = .int .i64 xi ∧ (2 * (c : Int) + xi = (n : Int) - 1 ∧ 6 ≤ xi ∨ 2 * (c : Int) + xi = (n : Int) - 2 ∧ xi < 6) ∧
     y = .int .i64 y0 ∧ (c % 2 = 0 ∧ d0 = -1 ∧ y0 = (n : Int) - 1 ∨ c % 2 = 1 ∧ d0 = 1 ∧ y0 = 0) ∧ BM wr B R n (laid bs m n M c 0).2 ∧ Kept (span (R + 1) n) w wr ∧ BA wr B2 C2 ws bs) (fun _ _ x _ _ => (intOf x).toNat)
  case atStart => exact ⟨0, (n : Int) - 1, -1, (n : Int) - 1, by omega, rfl, rfl, rfl, by omega, rfl, by omega, h, Kept.refl _ _, ha⟩
  case round =>
    obtain ⟨c, xi, d0, y0, hc, rfl, rfl, rfl, hxi, rfl, hd, hb, hkp, hab⟩ := hrel
    have hxb : xi ≤ 200 := by omega
    have hxb2 : -1 ≤ xi := by have := HC.out; omega
    by_cases hx0 : 0 < xi
    · obtain ⟨xc, hxc, hcx⟩ : ∃ xc : Nat, colX n c = xc ∧ (xc : Int) = if xi = 6 then 5 else xi := by
        refine ⟨_, rfl, ?_⟩
        unfold colX
        split <;> split <;> omega
      obtain ⟨idx, hidx⟩ : ∃ idx, (laid bs m n M c 0).1 = idx := ⟨_, rfl⟩
      have hle := laid_le bs m n M c 0
      rw [hidx] at hle
      have HIDX := Lib.hid hidx
      have HD := Lib.hid hd
      have HXC := Lib.hid hxc
      have HX2 := Lib.hid (show (2 * (c : Int) + (xc : Int) = (n : Int) - 1 ∧ 6 ≤ xc ∨ 2 * (c : Int) + (xc : Int) = (n : Int) - 2 ∧ xc < 6) ∧ xc ≠ 6 by split at hcx <;> omega)
      have hxc1 : 1 ≤ xc := by split at hcx <;> omega
      have hxcn : xc < n := by split at hcx <;> omega
      have hcC : c < C := by have := HC.out; omega
      clear hd hxc
      rw [hidx]
      clear hidx
      by_cases e6 : xi = 6
      · subst e6
        have hcx5 : (xc : Int) = 5 := by rw [hcx, if_pos rfl]
        clear hcx
        go_wp2_with fail
        rw [show Value.int .i64 5 = Value.int .i64 (xc : Int) from by rw [hcx5]]
        clear hcx5
        go_loopw [7, 10] (fun b y wr => ∃ (t : Nat) (yi : Int), t ≤ n ∧ b = intv (laid bs m n M c t).1 ∧ y = .int .i64 yi ∧ (c % 2 = 0 ∧ yi = (n : Int) - 1 - (t : Int) ∨ c % 2 = 1 ∧ yi = (t : Int)) ∧
           BM wr B R n (laid bs m n M c t).2 ∧ Kept (span (R + 1) n) w wr ∧ BA wr B2 C2 ws bs) (fun _ y _ => zigMeas c n (intOf y))
        case atStart => exact ⟨0, y0, by omega, by rw [HIDX.out], rfl, by have := HD.out; omega, hb, hkp, hab⟩
        case round =>
          obtain ⟨t, yi, ht, rfl, rfl, hyi, hbt, hkt, hat⟩ := hrel
          have HY := Lib.hid hyi; clear hyi
          have hyb : -1 ≤ yi ∧ yi ≤ n := by have := HY.out; omega
          obtain ⟨hyb1, hyb2⟩ := hyb
          obtain ⟨st, hst⟩ : ∃ st, laid bs m n M c t = st := ⟨_, rfl⟩
          have hile := laid_le bs m n M c t
          rw [hst] at hbt hile ⊢
          by_cases htn : t < n
          · have hy0 : 0 ≤ yi := by have := HY.out; omega
            have hyn : yi < (n : Int) := by have := HY.out; omega
            obtain ⟨yr, hyr, hyr2⟩ : ∃ yr : Nat, rowY n c t = yr ∧ yi = (yr : Int) := by
              refine ⟨_, rfl, ?_⟩
              have := HY.out
              unfold rowY; split <;> omega
            subst hyr2
            have hyr3 : yr < n := by omega
            have HR := Lib.hid (show laid bs m n M c (t + 1) = inner bs m st xc yr 2 by rw [laid_row, hst, hyr, HXC.out]; rfl)
            have HST := Lib.hid hst; clear hst hyr
            go_wp2_with fail
            refine (height_c hbt).mono ?_
            rintro e w1 ⟨rfl, rfl⟩
            obtain ⟨wo1, hwo1⟩ : ∃ wo : World, wo = wr := ⟨_, rfl⟩
            go_wp2_with fail
            go_loopw [7, 11] (fun b a wr => ∃ i : Nat, i ≤ 2 ∧ b = intv (inner bs m st xc yr i).1 ∧ a = intv i ∧ BM wr B R n (inner bs m st xc yr i).2 ∧ Kept (span (R + 1) n) w wr ∧ BA wr B2 C2 ws bs) (fun _ a _ => 2 - (intOf a).toNat)
            case atStart => exact ⟨0, by omega, rfl, rfl, hbt, hkt, hat⟩
            case round =>
              obtain ⟨i, hi, rfl, rfl, hbi, hki, hai⟩ := hrel
              have hi9 : (i : Int) ≤ 2 := by omega
              obtain ⟨si, hsi⟩ : ∃ si, inner bs m st xc yr i = si := ⟨_, rfl⟩
              have hsl := inner_le bs m st xc yr i hile
              by_cases hi2 : i < 2
              · have HS := Lib.hid (show inner bs m st xc yr (i + 1) = cell bs m si (xc - i, yr) by show cell _ _ _ _ = _; rw [hsi])
                rw [hsi] at hbi hsl ⊢
                clear hsi
                obtain ⟨id, Mi⟩ := si
                dsimp only at hbi hsl ⊢
                obtain ⟨xx, hxx⟩ : ∃ xx, xc - i = xx := ⟨_, rfl⟩
                rw [hxx] at HS
                have hxx2 : (xc : Int) - (i : Int) = (xx : Int) := by omega
                have hxx3 : xx < n := by omega
                have hidb : (id : Int) ≤ 60800 := by have := HL.out; omega
                clear hxx
                go_wp2_with fail
                refine (mget_c hbi xx yr _ _ rfl rfl hxx3 hyr3 _ rfl).mono ?_
                rintro e w1 ⟨rfl, rfl⟩
                go_wp2_with fail
                by_cases e2 : Mi yr xx = -1
                · have HE := Lib.hid (show cell bs m (id, Mi) (xx, yr) = (if id < bs.length then id + 1 else id, upd Mi yr xx (bit01 (bs.getD id false != maskBit m xx yr))) by unfold cell; rw [if_pos e2])
                  refine (isEmptyB _ true (by rw [e2]; rfl) _).mono ?_
                  clear e2
                  rintro e w2 ⟨rfl, rfl⟩
                  go_wp2_with fail
                  refine (getSize_c _ B2 C2 _ _ hai).mono ?_
                  rintro e w2 ⟨rfl, rfl⟩
                  obtain ⟨len, hlen⟩ : ∃ len, bs.length = len := ⟨_, rfl⟩
                  rw [hlen] at hsl ⊢
                  have HLEN := Lib.hid hlen
                  by_cases hil : id < len
                  · have hil2 : (id : Int) < (len : Int) := by omega
                    have HE2 := Lib.hid (show cell bs m (id, Mi) (xx, yr) = (id + 1, upd Mi yr xx (bit01 (bs.getD id false != maskBit m xx yr))) by rw [HE.out, if_pos (by omega)])
                    clear hlen
                    obtain ⟨bb, hbb⟩ : ∃ bb, bs.getD id false = bb := ⟨_, rfl⟩
                    rw [hbb] at HE2
                    have HBB := Lib.hid hbb
                    clear hbb
                    go_wp2_with fail
                    refine (get_c _ B2 C2 _ _ hai _ id rfl (by have := HLEN.out; omega) bb HBB.out).mono ?_
                    rintro e w2 ⟨rfl, rfl⟩
                    go_wp2_with fail
                    refine (mask_c m xx yr hm (by omega) (by omega) _).mono ?_
                    rintro e w2 ⟨rfl, rfl⟩
                    obtain ⟨mb, hmb⟩ : ∃ mb, maskBit m xx yr = mb := ⟨_, rfl⟩
                    rw [hmb] at HE2
                    rw [hmb]
                    clear hmb
                    cases mb <;>
                    · go_wp2_with fail
                      refine (msetBool_c hbi xx yr _ _ rfl rfl hxx3 hyr3 _).mono ?_
                      rintro e w5 ⟨rfl, hb5, hk5⟩
                      have ha5 := hai.kept hk5 (BA.apart hbi hai).1 (BA.apart hbi hai).2
                      go_wp2_with fail
                      go_roundw
                      case rel => exact ⟨i + 1, by omega, by rw [HS.out, HE2.out]; go_num, by go_num, by rw [HS.out, HE2.out]; simpa [bit01] using hb5, hki.then hk5, ha5⟩
                      case measure => simp [intOf]; omega
                  · have hil2 : ¬ (id : Int) < (len : Int) := by omega
                    have HE2 := Lib.hid (show cell bs m (id, Mi) (xx, yr) = (id, upd Mi yr xx (bit01 (false != maskBit m xx yr))) by rw [HE.out, if_neg (by omega)]; rw [show bs.getD id false = false from by rw [List.getD_eq_getElem?_getD, List.getElem?_eq_none (by omega)]; rfl])
                    clear hlen
                    go_wp2_with fail
                    refine (mask_c m xx yr hm (by omega) (by omega) _).mono ?_
                    rintro e w2 ⟨rfl, rfl⟩
                    obtain ⟨mb, hmb⟩ : ∃ mb, maskBit m xx yr = mb := ⟨_, rfl⟩
                    rw [hmb] at HE2
                    rw [hmb]
                    clear hmb
                    cases mb <;>
                    · go_wp2_with fail
                      refine (msetBool_c hbi xx yr _ _ rfl rfl hxx3 hyr3 _).mono ?_
                      rintro e w5 ⟨rfl, hb5, hk5⟩
                      have ha5 := hai.kept hk5 (BA.apart hbi hai).1 (BA.apart hbi hai).2
                      go_wp2_with fail
                      go_roundw
                      case rel => exact ⟨i + 1, by omega, by rw [HS.out, HE2.out], by go_num, by rw [HS.out, HE2.out]; simpa [bit01] using hb5, hki.then hk5, ha5⟩
                      case measure => simp [intOf]; omega
                · have HE := Lib.hid (show cell bs m (id, Mi) (xx, yr) = (id, Mi) by unfold cell; rw [if_neg e2])
                  refine (isEmptyB _ false (by simpa using e2) _).mono ?_
                  clear e2
                  rintro e w2 ⟨rfl, rfl⟩
                  go_wp2_with fail
                  go_roundw
                  case rel => exact ⟨i + 1, by omega, by rw [HS.out, HE.out], by go_num, by rw [HS.out, HE.out]; exact hbi, hki, hai⟩
                  case measure => simp [intOf]; omega
              · obtain rfl : i = 2 := by omega
                clear hsi
                have hd3 : -1 ≤ d0 ∧ d0 ≤ 1 := by have := HD.out; omega
                obtain ⟨hd4, hd5⟩ := hd3
                go_wp2_with fail
                go_roundw
                case rel => exact ⟨t + 1, (yr : Int) + d0, by omega, by rw [HR.out], by go_num, by have := HD.out; have := HY.out; omega, by rw [HR.out]; exact hbi, hki, hai⟩
                case measure => have := HD.out; have := HY.out; simp [intOf]; unfold zigMeas; split <;> omega
          · obtain rfl : t = n := by omega
            have HST := Lib.hid hst; clear hst
            have HK := Lib.hid (laid_col bs m t M c)
            rcases HD.out with ⟨hd1, hd2, hd3⟩ | ⟨hd1, hd2, hd3⟩
            · subst hd2
              have hy1 : yi = -1 := by have := HY.out; omega
              subst hy1
              go_wp2_with fail
              go_roundw
              case rel => exact ⟨c + 1, (xc : Int) - 2, 1, 0, by have := HC.out; omega, by rw [← HK.out, HST.out], by go_num, by go_num, by have := HC.out; have := HX2.out; omega, by go_num, by omega, by rw [← HK.out, HST.out]; exact hbt, hkt, hat⟩
              case measure => have := HX2.out; simp [intOf]; omega
            · subst hd2
              have hy1 : yi = t := by have := HY.out; omega
              subst hy1
              go_wp2_with fail
              refine (height_c hbt).mono ?_
              rintro e w1 ⟨rfl, rfl⟩
              go_wp2_with fail
              go_roundw
              case rel => exact ⟨c + 1, (xc : Int) - 2, -1, (t : Int) - 1, by have := HC.out; omega, by rw [← HK.out, HST.out], by go_num, by go_num, by have := HC.out; have := HX2.out; omega, by go_num, by omega, by rw [← HK.out, HST.out]; exact hbt, hkt, hat⟩
              case measure => have := HX2.out; simp [intOf]; omega
      · have hcx5 : xi = (xc : Int) := by rw [hcx, if_neg e6]
        subst hcx5
        clear hcx
        have t1 : decide (0 < xc) = true := by simp; omega
        have t2 : ((xc : Int) == 6) = false := by simpa using e6
        have t3 : decide (0 < (xc : Int)) = true := by simp; omega
        go_wp2_with fail
        try simp only [t1, t2, t3]
        go_loopw [7, 10] (fun b y wr => ∃ (t : Nat) (yi : Int), t ≤ n ∧ b = intv (laid bs m n M c t).1 ∧ y = .int .i64 yi ∧ (c % 2 = 0 ∧ yi = (n : Int) - 1 - (t : Int) ∨ c % 2 = 1 ∧ yi = (t : Int)) ∧
           BM wr B R n (laid bs m n M c t).2 ∧ Kept (span (R + 1) n) w wr ∧ BA wr B2 C2 ws bs) (fun _ y _ => zigMeas c n (intOf y))
        case atStart => exact ⟨0, y0, by omega, by rw [HIDX.out], rfl, by have := HD.out; omega, hb, hkp, hab⟩
        case round =>
          obtain ⟨t, yi, ht, rfl, rfl, hyi, hbt, hkt, hat⟩ := hrel
          have HY := Lib.hid hyi; clear hyi
          have hyb : -1 ≤ yi ∧ yi ≤ n := by have := HY.out; omega
          obtain ⟨hyb1, hyb2⟩ := hyb
          obtain ⟨st, hst⟩ : ∃ st, laid bs m n M c t = st := ⟨_, rfl⟩
          have hile := laid_le bs m n M c t
          rw [hst] at hbt hile ⊢
          by_cases htn : t < n
          · have hy0 : 0 ≤ yi := by have := HY.out; omega
            have hyn : yi < (n : Int) := by have := HY.out; omega
            obtain ⟨yr, hyr, hyr2⟩ : ∃ yr : Nat, rowY n c t = yr ∧ yi = (yr : Int) := by
              refine ⟨_, rfl, ?_⟩
              have := HY.out
              unfold rowY; split <;> omega
            subst hyr2
            have hyr3 : yr < n := by omega
            have HR := Lib.hid (show laid bs m n M c (t + 1) = inner bs m st xc yr 2 by rw [laid_row, hst, hyr, HXC.out]; rfl)
            have HST := Lib.hid hst; clear hst hyr
            go_wp2_with fail
            refine (height_c hbt).mono ?_
            rintro e w1 ⟨rfl, rfl⟩
            obtain ⟨wo1, hwo1⟩ : ∃ wo : World, wo = wr := ⟨_, rfl⟩
            go_wp2_with fail
            go_loopw [7, 11] (fun b a wr => ∃ i : Nat, i ≤ 2 ∧ b = intv (inner bs m st xc yr i).1 ∧ a = intv i ∧ BM wr B R n (inner bs m st xc yr i).2 ∧ Kept (span (R + 1) n) w wr ∧ BA wr B2 C2 ws bs) (fun _ a _ => 2 - (intOf a).toNat)
            case atStart => exact ⟨0, by omega, rfl, rfl, hbt, hkt, hat⟩
            case round =>
              obtain ⟨i, hi, rfl, rfl, hbi, hki, hai⟩ := hrel
              have hi9 : (i : Int) ≤ 2 := by omega
              obtain ⟨si, hsi⟩ : ∃ si, inner bs m st xc yr i = si := ⟨_, rfl⟩
              have hsl := inner_le bs m st xc yr i hile
              by_cases hi2 : i < 2
              · have HS := Lib.hid (show inner bs m st xc yr (i + 1) = cell bs m si (xc - i, yr) by show cell _ _ _ _ = _; rw [hsi])
                rw [hsi] at hbi hsl ⊢
                clear hsi
                obtain ⟨id, Mi⟩ := si
                dsimp only at hbi hsl ⊢
                obtain ⟨xx, hxx⟩ : ∃ xx, xc - i = xx := ⟨_, rfl⟩
                rw [hxx] at HS
                have hxx2 : (xc : Int) - (i : Int) = (xx : Int) := by omega
                have hxx3 : xx < n := by omega
                have hidb : (id : Int) ≤ 60800 := by have := HL.out; omega
                clear hxx
                go_wp2_with fail
                refine (mget_c hbi xx yr _ _ rfl rfl hxx3 hyr3 _ rfl).mono ?_
                rintro e w1 ⟨rfl, rfl⟩
                go_wp2_with fail
                by_cases e2 : Mi yr xx = -1
                · have HE := Lib.hid (show cell bs m (id, Mi) (xx, yr) = (if id < bs.length then id + 1 else id, upd Mi yr xx (bit01 (bs.getD id false != maskBit m xx yr))) by unfold cell; rw [if_pos e2])
                  refine (isEmptyB _ true (by rw [e2]; rfl) _).mono ?_
                  clear e2
                  rintro e w2 ⟨rfl, rfl⟩
                  go_wp2_with fail
                  refine (getSize_c _ B2 C2 _ _ hai).mono ?_
                  rintro e w2 ⟨rfl, rfl⟩
                  obtain ⟨len, hlen⟩ : ∃ len, bs.length = len := ⟨_, rfl⟩
                  rw [hlen] at hsl ⊢
                  have HLEN := Lib.hid hlen
                  by_cases hil : id < len
                  · have hil2 : (id : Int) < (len : Int) := by omega
                    have HE2 := Lib.hid (show cell bs m (id, Mi) (xx, yr) = (id + 1, upd Mi yr xx (bit01 (bs.getD id false != maskBit m xx yr))) by rw [HE.out, if_pos (by omega)])
                    clear hlen
                    obtain ⟨bb, hbb⟩ : ∃ bb, bs.getD id false = bb := ⟨_, rfl⟩
                    rw [hbb] at HE2
                    have HBB := Lib.hid hbb
                    clear hbb
                    go_wp2_with fail
                    refine (get_c _ B2 C2 _ _ hai _ id rfl (by have := HLEN.out; omega) bb HBB.out).mono ?_
                    rintro e w2 ⟨rfl, rfl⟩
                    go_wp2_with fail
                    refine (mask_c m xx yr hm (by omega) (by omega) _).mono ?_
                    rintro e w2 ⟨rfl, rfl⟩
                    obtain ⟨mb, hmb⟩ : ∃ mb, maskBit m xx yr = mb := ⟨_, rfl⟩
                    rw [hmb] at HE2
                    rw [hmb]
                    clear hmb
                    cases mb <;>
                    · go_wp2_with fail
                      refine (msetBool_c hbi xx yr _ _ rfl rfl hxx3 hyr3 _).mono ?_
                      rintro e w5 ⟨rfl, hb5, hk5⟩
                      have ha5 := hai.kept hk5 (BA.apart hbi hai).1 (BA.apart hbi hai).2
                      go_wp2_with fail
                      go_roundw
                      case rel => exact ⟨i + 1, by omega, by rw [HS.out, HE2.out]; go_num, by go_num, by rw [HS.out, HE2.out]; simpa [bit01] using hb5, hki.then hk5, ha5⟩
                      case measure => simp [intOf]; omega
                  · have hil2 : ¬ (id : Int) < (len : Int) := by omega
                    have HE2 := Lib.hid (show cell bs m (id, Mi) (xx, yr) = (id, upd Mi yr xx (bit01 (false != maskBit m xx yr))) by rw [HE.out, if_neg (by omega)]; rw [show bs.getD id false = false from by rw [List.getD_eq_getElem?_getD, List.getElem?_eq_none (by omega)]; rfl])
                    clear hlen
                    go_wp2_with fail
                    refine (mask_c m xx yr hm (by omega) (by omega) _).mono ?_
                    rintro e w2 ⟨rfl, rfl⟩
                    obtain ⟨mb, hmb⟩ : ∃ mb, maskBit m xx yr = mb := ⟨_, rfl⟩
                    rw [hmb] at HE2
                    rw [hmb]
                    clear hmb
                    cases mb <;>
                    · go_wp2_with fail
                      refine (msetBool_c hbi xx yr _ _ rfl rfl hxx3 hyr3 _).mono ?_
                      rintro e w5 ⟨rfl, hb5, hk5⟩
                      have ha5 := hai.kept hk5 (BA.apart hbi hai).1 (BA.apart hbi hai).2
                      go_wp2_with fail
                      go_roundw
                      case rel => exact ⟨i + 1, by omega, by rw [HS.out, HE2.out], by go_num, by rw [HS.out, HE2.out]; simpa [bit01] using hb5, hki.then hk5, ha5⟩
                      case measure => simp [intOf]; omega
                · have HE := Lib.hid (show cell bs m (id, Mi) (xx, yr) = (id, Mi) by unfold cell; rw [if_neg e2])
                  refine (isEmptyB _ false (by simpa using e2) _).mono ?_
                  clear e2
                  rintro e w2 ⟨rfl, rfl⟩
                  go_wp2_with fail
                  go_roundw
                  case rel => exact ⟨i + 1, by omega, by rw [HS.out, HE.out], by go_num, by rw [HS.out, HE.out]; exact hbi, hki, hai⟩
                  case measure => simp [intOf]; omega
              · obtain rfl : i = 2 := by omega
                clear hsi
                have hd3 : -1 ≤ d0 ∧ d0 ≤ 1 := by have := HD.out; omega
                obtain ⟨hd4, hd5⟩ := hd3
                go_wp2_with fail
                go_roundw
                case rel => exact ⟨t + 1, (yr : Int) + d0, by omega, by rw [HR.out], by go_num, by have := HD.out; have := HY.out; omega, by rw [HR.out]; exact hbi, hki, hai⟩
                case measure => have := HD.out; have := HY.out; simp [intOf]; unfold zigMeas; split <;> omega
          · obtain rfl : t = n := by omega
            have HST := Lib.hid hst; clear hst
            have HK := Lib.hid (laid_col bs m t M c)
            rcases HD.out with ⟨hd1, hd2, hd3⟩ | ⟨hd1, hd2, hd3⟩
            · subst hd2
              have hy1 : yi = -1 := by have := HY.out; omega
              subst hy1
              go_wp2_with fail
              go_roundw
              case rel => exact ⟨c + 1, (xc : Int) - 2, 1, 0, by have := HC.out; omega, by rw [← HK.out, HST.out], by go_num, by go_num, by have := HC.out; have := HX2.out; omega, by go_num, by omega, by rw [← HK.out, HST.out]; exact hbt, hkt, hat⟩
              case measure => have := HX2.out; simp [intOf]; omega
            · subst hd2
              have hy1 : yi = t := by have := HY.out; omega
              subst hy1
              go_wp2_with fail
              refine (height_c hbt).mono ?_
              rintro e w1 ⟨rfl, rfl⟩
              go_wp2_with fail
              go_roundw
              case rel => exact ⟨c + 1, (xc : Int) - 2, -1, (t : Int) - 1, by have := HC.out; omega, by rw [← HK.out, HST.out], by go_num, by go_num, by have := HC.out; have := HX2.out; omega, by go_num, by omega, by rw [← HK.out, HST.out]; exact hbt, hkt, hat⟩
              case measure => have := HX2.out; simp [intOf]; omega
    · have hcC : c = C := by have := HC.out; omega
      subst hcC
      clear hxi hd
      obtain ⟨st, hst⟩ : ∃ st, laid bs m n M c 0 = st := ⟨_, rfl⟩
      have HST := Lib.hid hst
      rw [hst] at hb HALL ⊢
      clear hst
      have hal := HALL.out
      rw [hal]
      go_wp2_with fail
      refine (getSize_c _ B2 C2 _ _ hab).mono ?_
      rintro e w2 ⟨rfl, rfl⟩
      go_wp2_with fail
      go_ret
      exact ⟨rfl, by rw [HST.out]; exact hb, hkp⟩
end

section
/-- All but the data: of version K + 1, level l, mask m. -/
def fixed (n K l m : Nat) : Nat → Nat → Int := withVersion (typeTo (basic n K) n (typeBits (l * 8 + m)) 15) n (K + 1)
set_option maxRecDepth 100000 in
set_option maxHeartbeats 4000000 in
theorem build_c {w : World} {B R n V N K B2 C2 : Nat} {M : Nat → Nat → Int} {ws : List Nat} {bs : List Bool} (h : BM w B R n M) (hV : Ver w V N (K + 1)) (ha : BA w B2 C2 ws bs) (hVR : V < R) (hK7 : K < 7) (hn : n = 21 + 4 * K)
    (l m : Nat) (hl : l < 4) (hm : m < 8) (hall : (laid bs m n (fixed n K l m) (10 + 2 * K) 0).1 = bs.length) :
    Calls Tryz.prog 68 #[ptv B2, .int .i64 (l : Int), ptv V, .int .i64 (m : Int), ptv B] w fun e w' => e = .returned .nilIface ∧ BM w' B R n (laid bs m n (fixed n K l m) (10 + 2 * K) 0).2 ∧ Kept (span (R + 1) n) w w' := by
  have hn20 : 20 ≤ n := by omega
  have hn200 : n ≤ 200 := by omega
  have HN := Lib.hid hn
  have hlt0 := h.lt
  have hV1 : ∀ x ∈ span (R + 1) n, x < N ∨ V < x := by intro x hx; rw [mem_span] at hx; omega
  clear hn
  have HA := Lib.hid hall
  clear hall
  go_enter Tryz.func68, Tryz.ntmps68
  go_wp2_with fail
  refine (clear_c h hn200).mono ?_
  rintro e w1 ⟨rfl, hb1, hk1⟩
  have a1 := BA.kept ha hk1 (BA.apart h ha).1 (BA.apart h ha).2
  go_wp2_with fail
  refine (basic_c hb1 (hV.kept hk1 hV1) hVR rfl (by omega) HN.out).mono ?_
  rintro e w2 ⟨rfl, hb2, hk2⟩
  have a2 := BA.kept a1 hk2 (BA.apart hb1 a1).1 (BA.apart hb1 a1).2
  go_wp2_with fail
  refine (embedType_c hb2 l m hl hm hn20 hn200).mono ?_
  rintro e w3 ⟨rfl, hb3, hk3⟩
  have a3 := BA.kept a2 hk3 (BA.apart hb2 a2).1 (BA.apart hb2 a2).2
  have k3 := (hk1.then hk2).then hk3
  go_wp2_with fail
  refine (embedVersion_c hb3 (hV.kept k3 hV1) hVR (by omega) hn20 hn200).mono ?_
  rintro e w4 ⟨rfl, hb4, hk4⟩
  have a4 := BA.kept a3 hk4 (BA.apart hb3 a3).1 (BA.apart hb3 a3).2
  go_wp2_with fail
  refine (embedData_c hb4 a4 m (10 + 2 * K) hm (by have := HN.out; omega) hn20 hn200 HA.out).mono ?_
  rintro e w5 ⟨rfl, hb5, hk5⟩
  go_wp2_with fail
  go_ret
  exact ⟨rfl, hb5, (k3.then hk4).then hk5⟩
end
end Go.Proofs.YtplpafbkalkchaaGreatDoor
