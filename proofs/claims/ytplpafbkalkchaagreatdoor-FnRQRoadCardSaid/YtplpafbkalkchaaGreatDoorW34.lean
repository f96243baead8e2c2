/- Walk: a code is drawn as a matrix of bits, as large as is asked for. Walks: the writer. Walks: the rows of a matrix of bits; the writer called. -/
import Derived.Laws.Cover3
import Derived.Test.YtplpafbkalkchaaGreatDoorW26
import Derived.Test.YtplpafbkalkchaaGreatDoorW25
import Derived.Test.YtplpafbkalkchaaGreatDoorW01
namespace Go.Proofs.YtplpafbkalkchaaGreatDoor
open Go Go.RowKit Go.Proofs
set_option linter.all false

section
/-- The picture of M with n columns, its left top corner at (lp, tp), m bits a module: all rows before yy, of row yy the columns before xx. -/
def picUp (M : Nat → Nat → Int) (n lp tp m yy xx : Nat) : Nat → Nat → Bool := fun Y X =>
  decide (tp ≤ Y ∧ lp ≤ X ∧ (X - lp) / m < n ∧ ((Y - tp) / m < yy ∨ ((Y - tp) / m = yy ∧ (X - lp) / m < xx)) ∧ M ((Y - tp) / m) ((X - lp) / m) = 1)
theorem band {m : Nat} (hm : 0 < m) (t k Y : Nat) : (t + k * m ≤ Y ∧ Y < t + k * m + m) ↔ (t ≤ Y ∧ (Y - t) / m = k) := by
  constructor
  · rintro ⟨h1, h2⟩
    have ht : t ≤ Y := by omega
    refine ⟨ht, ?_⟩
    have e : Y - t = (Y - t - k * m) + k * m := by omega
    rw [e, Nat.add_mul_div_right _ _ hm, Nat.div_eq_of_lt (by omega)]; omega
  · rintro ⟨h1, rfl⟩
    have h := Nat.div_add_mod (Y - t) m
    have h2 := Nat.mod_lt (Y - t) hm
    rw [Nat.mul_comm] at h
    omega
theorem picUp_one {M : Nat → Nat → Int} {n lp tp m yy xx : Nat} (hm : 0 < m) (hx : xx < n) (h : M yy xx = 1) :
    reg (picUp M n lp tp m yy xx) (tp + yy * m) (tp + yy * m + m) (lp + xx * m) (lp + xx * m + m) = picUp M n lp tp m yy (xx + 1) := by
  funext Y X
  unfold reg picUp
  by_cases hb : tp + yy * m ≤ Y ∧ Y < tp + yy * m + m ∧ lp + xx * m ≤ X ∧ X < lp + xx * m + m
  · rw [if_pos hb]
    obtain ⟨a1, a2⟩ := (band hm tp yy Y).1 ⟨hb.1, hb.2.1⟩
    obtain ⟨b1, b2⟩ := (band hm lp xx X).1 hb.2.2
    rw [a2, b2]
    symm
    rw [decide_eq_true_iff]
    exact ⟨a1, b1, hx, .inr ⟨rfl, by omega⟩, h⟩
  · rw [if_neg hb]
    apply decide_eq_decide.2
    constructor
    · rintro ⟨h1, h2, h3, h4, h5⟩
      exact ⟨h1, h2, h3, by omega, h5⟩
    · rintro ⟨h1, h2, h3, h4, h5⟩
      refine ⟨h1, h2, h3, ?_, h5⟩
      rcases h4 with h4 | ⟨h4, h6⟩
      · exact .inl h4
      · right
        refine ⟨h4, ?_⟩
        rcases Nat.lt_or_ge ((X - lp) / m) xx with h7 | h7
        · exact h7
        · exfalso
          have h8 : (X - lp) / m = xx := by omega
          have := (band hm tp yy Y).2 ⟨h1, h4⟩
          have := (band hm lp xx X).2 ⟨h2, h8⟩
          exact hb ⟨by omega, by omega, by omega, by omega⟩
theorem picUp_zero {M : Nat → Nat → Int} {n lp tp m yy xx : Nat} (h : M yy xx ≠ 1) : picUp M n lp tp m yy xx = picUp M n lp tp m yy (xx + 1) := by
  funext Y X
  unfold picUp
  apply decide_eq_decide.2
  constructor
  · rintro ⟨h1, h2, h3, h4, h5⟩
    exact ⟨h1, h2, h3, by omega, h5⟩
  · rintro ⟨h1, h2, h3, h4, h5⟩
    refine ⟨h1, h2, h3, ?_, h5⟩
    rcases h4 with h4 | ⟨h4, h6⟩
    · exact .inl h4
    · right
      refine ⟨h4, ?_⟩
      rcases Nat.lt_or_ge ((X - lp) / m) xx with h7 | h7
      · exact h7
      · exfalso
        have h8 : (X - lp) / m = xx := by omega
        rw [h4, h8] at h5; exact h h5
theorem picUp_row (M : Nat → Nat → Int) (n lp tp m yy : Nat) : picUp M n lp tp m yy n = picUp M n lp tp m (yy + 1) 0 := by
  funext Y X
  unfold picUp
  generalize (X - lp) / m = a
  generalize (Y - tp) / m = b
  apply decide_eq_decide.2
  constructor
  · rintro ⟨h1, h2, h3, h4, h5⟩
    exact ⟨h1, h2, h3, by omega, h5⟩
  · rintro ⟨h1, h2, h3, h4, h5⟩
    exact ⟨h1, h2, h3, by omega, h5⟩
theorem picUp_start (M : Nat → Nat → Int) (n lp tp m : Nat) : picUp M n lp tp m 0 0 = fun _ _ => false := by
  funext Y X
  unfold picUp
  generalize (X - lp) / m = a
  generalize (Y - tp) / m = b
  rw [decide_eq_false_iff_not]
  rintro ⟨_, _, _, h, _⟩
  omega
/-- The shape of the picture of n modules with a border of q, at least A wide and B high. -/
structure Shape (n q A B W H m lp tp : Nat) : Prop where
  sw : W = max A (n + 2 * q)
  sh : H = max B (n + 2 * q)
  sm : m = min (W / (n + 2 * q)) (H / (n + 2 * q))
  sl : lp = (W - n * m) / 2
  st : tp = (H - n * m) / 2
theorem Shape.fits {n q A B W H m lp tp : Nat} (s : Shape n q A B W H m lp tp) (hn : 1 ≤ n) : 1 ≤ m ∧ lp + n * m ≤ W ∧ tp + n * m ≤ H ∧ q ≤ lp ∧ q ≤ tp ∧ lp + n * m + q ≤ W ∧ tp + n * m + q ≤ H := by
  have h1 := s.sw
  have h2 := s.sh
  have hp : 0 < n + 2 * q := by omega
  have m1 : 1 ≤ W / (n + 2 * q) := (Nat.one_le_div_iff hp).2 (by omega)
  have m2 : 1 ≤ H / (n + 2 * q) := (Nat.one_le_div_iff hp).2 (by omega)
  have hm := s.sm
  have hm1 : 1 ≤ m := by omega
  have e1 : (n + 2 * q) * m ≤ W := Nat.le_trans (Nat.mul_le_mul_left _ (by omega)) (Nat.mul_div_le W (n + 2 * q))
  have e2 : (n + 2 * q) * m ≤ H := Nat.le_trans (Nat.mul_le_mul_left _ (by omega)) (Nat.mul_div_le H (n + 2 * q))
  have e3 : (n + 2 * q) * m = n * m + 2 * (q * m) := by rw [Nat.add_mul, Nat.mul_assoc]
  have e4 : q * 1 ≤ q * m := Nat.mul_le_mul_left _ hm1
  have h3 := s.sl
  have h4 := s.st
  omega
theorem eq_one_iff (v : Int) (c : Bool) (h : decide (v = 1) = c) : (v == 1) = c := by rw [← h]; rfl
set_option maxRecDepth 100000 in
set_option maxHeartbeats 4000000 in
theorem render_c {w : World} {Q MB R n : Nat} {a b c d : Value} {M : Nat → Nat → Int} (hq : Blk w Q [a, b, c, d, ptv MB] 219) (hM : BM w MB R n M) (hn1 : 1 ≤ n) (hn : n ≤ 200) (q A B W H m lp tp : Nat) (hq9 : q ≤ 20) (hA : A ≤ 300) (hB : B ≤ 300) (hn45 : n + 2 * q ≤ 300)
    (s : Shape n q A B W H m lp tp) :
    Calls Tryz.prog 25 #[ptv Q, .int .i64 (A : Int), .int .i64 (B : Int), .int .i64 (q : Int)] w fun e w' =>
      (∃ G C ws, e = .returned (.tuple #[ptv G, .nilIface]) ∧ GM w' G C W H ((W + 31) / 32) ws (picUp M n lp tp m n 0) ∧ w.heap.size ≤ G ∧ w.heap.size ≤ C) ∧ Kept [] w w' := by
  obtain ⟨f1, f2, f3, f4, f5, _, _⟩ := s.fits hn1
  have s1 := s.sw
  have s2 := s.sh
  have s3 := s.sm
  have s4 := s.sl
  have s5 := s.st
  obtain ⟨k, hk⟩ : ∃ k, n + 2 * q = k := ⟨_, rfl⟩
  obtain ⟨P, hP⟩ : ∃ P, n * m = P := ⟨_, rfl⟩
  obtain ⟨mw, hmw⟩ : ∃ mw, W / k = mw := ⟨_, rfl⟩
  obtain ⟨mh, hmh⟩ : ∃ mh, H / k = mh := ⟨_, rfl⟩
  rw [hk] at s1 s2 s3
  rw [hmw, hmh] at s3
  rw [hP] at f2 f3 s4 s5
  have iW : W ≤ 300 := by omega
  have iH : H ≤ 300 := by omega
  have im : m ≤ 300 := by have : n * m ≥ 1 * m := Nat.mul_le_mul_right _ hn1; omega
  have HK : (n : Int) + (q : Int) * 2 = (k : Int) := by omega
  have HPi : (n : Int) * (m : Int) = (P : Int) := by rw [← hP]; simp
  have HPn := Lib.hid hP
  have e1 : (W : Int) / (k : Int) = (mw : Int) := by rw [← hmw]; simp
  have e2 : (H : Int) / (k : Int) = (mh : Int) := by rw [← hmh]; simp
  have e3 : ((W : Int) - (P : Int)) / 2 = (lp : Int) := by omega
  have e4 : ((H : Int) - (P : Int)) / 2 = (tp : Int) := by omega
  have c1 : (k : Int) ≤ 300 := by omega
  have c2 : (1 : Int) ≤ k := by omega
  have c3 : (W : Int) ≤ 300 := by omega
  have c4 : (H : Int) ≤ 300 := by omega
  have c5 : (m : Int) ≤ 300 := by omega
  have c6 : (P : Int) ≤ W := by omega
  have c7 : (P : Int) ≤ H := by omega
  have c8 : (q : Int) ≤ 20 := by omega
  have c9 : (n : Int) ≤ 200 := by omega
  have hmwm : mw ≤ 300 := by rw [← hmw]; exact Nat.le_trans (Nat.div_le_self _ _) iW
  have hmhm : mh ≤ 300 := by rw [← hmh]; exact Nat.le_trans (Nat.div_le_self _ _) iH
  have S1 := Lib.hid s1
  have S2 := Lib.hid s2
  have S3 := Lib.hid s3
  have HMB := Lib.hid hM
  have HQ := Lib.hid hq
  have HF2 := Lib.hid f2
  have HF3 := Lib.hid f3
  have hk1 := hq
  clear s1 s2 s3 s4 s5 hk hP hmw hmh hM hq s f2 f3 f4 f5
  go_enter Tryz.func25, Tryz.ntmps25
  go_wp2_with fail
  refine (getMatrix_c HQ.out).mono ?_
  rintro e wx ⟨rfl, rfl⟩
  go_wp2_with fail
  refine (width_c HMB.out).mono ?_
  rintro e wx ⟨rfl, rfl⟩
  go_wp2_with fail
  refine (height_c HMB.out).mono ?_
  rintro e wx ⟨rfl, rfl⟩
  obtain ⟨wo, hwo⟩ : ∃ wo : World, wo = w := ⟨_, rfl⟩
  have HWO := Lib.hid hwo
  clear hwo
  go_upto_if 49 with fail
  go_cut [15] from 47 to 50 (fun v wx => v = .int .i64 (W : Int) ∧ w = wx)
  case first =>
    by_cases h : k < A
    · have hi : (k : Int) < A := by omega
      have e : Hid (A = W) := Lib.hid (by have := S1.out; omega)
      go_wp2_with fail
      go_meet
      exact ⟨by rw [e.out], rfl⟩
    · have hi : ¬ (k : Int) < A := by omega
      have e : Hid (k = W) := Lib.hid (by have := S1.out; omega)
      go_wp2_with fail
      go_meet
      exact ⟨by rw [e.out], rfl⟩
  case rest =>
    obtain ⟨rfl, rfl⟩ := hcut
    go_upto_if 54 with fail
    go_cut [16] from 52 to 55 (fun v wx => v = .int .i64 (H : Int) ∧ w = wx)
    case first =>
      by_cases h : k < B
      · have hi : (k : Int) < B := by omega
        have e : Hid (B = H) := Lib.hid (by have := S2.out; omega)
        go_wp2_with fail
        go_meet
        exact ⟨by rw [e.out], rfl⟩
      · have hi : ¬ (k : Int) < B := by omega
        have e : Hid (k = H) := Lib.hid (by have := S2.out; omega)
        go_wp2_with fail
        go_meet
        exact ⟨by rw [e.out], rfl⟩
    case rest =>
      obtain ⟨rfl, rfl⟩ := hcut
      go_upto_if 64 with fail
      go_cut [17] from 62 to 65 (fun v wx => v = .int .i64 (m : Int) ∧ w = wx)
      case first =>
        by_cases h : mh < mw
        · have hi : (mh : Int) < mw := by omega
          have e : Hid (mh = m) := Lib.hid (by have := S3.out; omega)
          go_wp2_with fail
          go_meet
          exact ⟨by rw [e.out], rfl⟩
        · have hi : ¬ (mh : Int) < mw := by omega
          have e : Hid (mw = m) := Lib.hid (by have := S3.out; omega)
          go_wp2_with fail
          go_meet
          exact ⟨by rw [e.out], rfl⟩
      case rest =>
        obtain ⟨rfl, rfl⟩ := hcut
        go_wp2_with fail
        refine (gmNew_c W H ((W + 31) / 32) (by have := S1.out; omega) (by have := S2.out; omega) (by omega) (by omega) rfl (by have : (W + 31) / 32 * H ≤ 10 * H := Nat.mul_le_mul_right _ (by omega); omega) w).mono ?_
        rintro e w1 ⟨rfl, hG, hk1'⟩
        obtain ⟨G, hGd⟩ : ∃ G, w.heap.size + 1 = G := ⟨_, rfl⟩
        obtain ⟨C, hCd⟩ : ∃ C, w.heap.size = C := ⟨_, rfl⟩
        rw [hGd, hCd] at hG
        rw [hGd]
        have HGd := Lib.hid hGd
        have HCd := Lib.hid hCd
        have HG1 := Lib.hid hG
        have HBM := HMB.out.size
        have HBMs := Lib.hid HBM
        have hm1 := HMB.out.kept hk1' (by simp)
        have HM1 := Lib.hid hm1
        have HK1 := Lib.hid hk1'
        generalize List.replicate ((W + 31) / 32 * H) 0 = ws0 at HG1 hG
        clear hGd hCd hG HBM hm1 hk1'
        go_wp2_with fail
        go_loopw [23, 24] (fun s23 s24 wr => ∃ y ws', y ≤ n ∧ s23 = .int .i64 (y : Int) ∧ s24 = .int .i64 ((tp + y * m : Nat) : Int) ∧ GM wr G C W H ((W + 31) / 32) ws' (picUp M n lp tp m y 0) ∧ Kept [] w wr) (fun s _ _ => (n - (intOf s)).toNat)
        case atStart => exact ⟨0, ws0, by omega, rfl, by simp, by rw [picUp_start]; exact HG1.out, HK1.out⟩
        case round =>
          obtain ⟨y, ws1, hyn, rfl, rfl, hg, hk⟩ := hrel
          have hbm := HMB.out.kept hk (by simp)
          have HBM := Lib.hid hbm
          have HG := Lib.hid hg
          clear hbm hg
          obtain ⟨ty, hty⟩ : ∃ ty, tp + y * m = ty := ⟨_, rfl⟩
          have HTY := Lib.hid hty
          rw [HTY.out]
          clear hty
          by_cases hlt : y < n
          · have hli : (y : Int) < n := by omega
            have hyP : Hid (y * m + m ≤ P) := Lib.hid (by rw [← HPn.out]; have := Nat.mul_le_mul_right m hlt; rw [Nat.succ_mul] at this; exact this)
            have hty9 : (ty : Int) ≤ 300 := by have := hyP.out; have := HTY.out; have := HF3.out; omega
            go_wp2_with fail
            obtain ⟨wo, hwo⟩ : ∃ wo : World, wo = wr := ⟨_, rfl⟩
            rw [← hwo] at HG HBM hk
            go_loopw [25, 26] (fun s25 s26 wq => ∃ x ws', x ≤ n ∧ s25 = .int .i64 (x : Int) ∧ s26 = .int .i64 ((lp + x * m : Nat) : Int) ∧ GM wq G C W H ((W + 31) / 32) ws' (picUp M n lp tp m y x) ∧ Kept [] w wq) (fun s _ _ => (n - (intOf s)).toNat)
            case atStart => exact ⟨0, ws1, by omega, rfl, by simp, by rw [← hwo]; exact HG.out, by rw [← hwo]; exact hk⟩
            case round =>
              obtain ⟨x, ws2, hxn, rfl, rfl, hg2, hk2⟩ := hrel
              have hbm2 := HMB.out.kept hk2 (by simp)
              have HBM2 := Lib.hid hbm2
              have HG2 := Lib.hid hg2
              clear hbm2 hg2
              obtain ⟨lx, hlx⟩ : ∃ lx, lp + x * m = lx := ⟨_, rfl⟩
              have HLX := Lib.hid hlx
              rw [HLX.out]
              clear hlx
              by_cases hltx : x < n
              · have hlix : (x : Int) < n := by omega
                have hxP : Hid (x * m + m ≤ P) := Lib.hid (by rw [← HPn.out]; have := Nat.mul_le_mul_right m hltx; rw [Nat.succ_mul] at this; exact this)
                have hlx9 : (lx : Int) ≤ 300 := by have := hxP.out; have := HLX.out; have := HF2.out; omega
                have hne : lx + m = lp + (x + 1) * m := by rw [Nat.succ_mul, ← HLX.out]; omega
                have HNE := Lib.hid hne
                clear hne
                by_cases h1 : M y x = 1
                · go_wp2_with fail
                  refine (mget_c HBM2.out x y _ _ rfl rfl hltx hlt 1 h1).mono ?_
                  rintro e wx ⟨rfl, rfl⟩
                  go_wp2_with fail
                  refine (gmRegion_c HG2.out lx ty m m (by omega) (by omega) (by have := hxP.out; have := HLX.out; have := HF2.out; omega) (by have := hyP.out; have := HTY.out; have := HF3.out; omega)).mono ?_
                  rintro e w3 ⟨rfl, ⟨ws3, hg3⟩, hk3⟩
                  have h4 : Hid (GM w3 G C W H ((W + 31) / 32) ws3 (picUp M n lp tp m y (x + 1))) := Lib.hid (by
                    rw [← picUp_one (by omega) hltx h1, HTY.out, HLX.out]; exact hg3)
                  have HK3 := Lib.hid (hk2.trans hk3 (fun z hz hl => by have := HCd.out; simp at hz; omega))
                  clear hg3 hk3
                  go_wp2_with fail
                  go_roundw
                  case rel => exact ⟨x + 1, ws3, by omega, by go_num, by rw [← HNE.out]; go_num, h4.out, HK3.out⟩
                  case measure => simp [intOf]; omega
                · obtain ⟨v, hv⟩ : ∃ v, M y x = v := ⟨_, rfl⟩
                  have hv1 : ¬ v = 1 := by rw [← hv]; exact h1
                  go_wp2_with fail
                  refine (mget_c HBM2.out x y _ _ rfl rfl hltx hlt v hv).mono ?_
                  rintro e wx ⟨rfl, rfl⟩
                  have HK2 := Lib.hid hk2
                  have h4 := HG2.out
                  rw [picUp_zero h1] at h4
                  have H4 := Lib.hid h4
                  clear h4 h1 hv
                  go_wp2_with fail
                  go_roundw
                  case rel => exact ⟨x + 1, ws2, by omega, by go_num, by rw [← HNE.out]; go_num, H4.out, HK2.out⟩
                  case measure => simp [intOf]; omega
              · obtain rfl : x = n := by omega
                have HK2 := Lib.hid hk2
                have hne : ty + m = tp + (y + 1) * m := by rw [Nat.succ_mul, ← HTY.out]; omega
                have HNE := Lib.hid hne
                clear hne
                go_wp2_with fail
                go_roundw
                case rel => exact ⟨y + 1, ws2, by omega, by go_num, by rw [← HNE.out]; go_num, by rw [← picUp_row]; exact HG2.out, HK2.out⟩
                case measure => simp [intOf]; omega
          · obtain rfl : y = n := by omega
            go_wp2_with fail
            go_ret2
            exact ⟨⟨G, C, ws1, rfl, HG.out, by have := HGd.out; omega, by have := HCd.out; omega⟩, hk⟩
end

section
/-- What lies under the key c. -/
def Holds (es : Array MapEntry) (c : Int) (v : Value) : Prop := ∃ i, Go.Instr.findNow (.int .i64) (.int .i64 c) es.toList 0 = some (some (i, v))
theorem HMap.holds {w : World} {m : Nat} {es : Array MapEntry} (h : HMap w m es) {c : Int} {v : Value} (hr : Holds es c v) :
   (Go.Instr.lookup 47 (.map (Option.some m)) (.int .i64 c) true).run Tryz.prog w = .ok (.tuple #[v, .bool true]) w := by
  obtain ⟨i, hr⟩ := hr; exact h.some c i v hr
theorem assert46 (W : World) (v : Value) : (Go.Instr.typeAssert (.iface 46 v) 20 46 true).run Tryz.prog W = .ok (.tuple #[v, .bool true]) W := by kernel_rfl
theorem assert3 (W : World) (v : Value) : (Go.Instr.typeAssert (.iface 3 v) 20 3 true).run Tryz.prog W = .ok (.tuple #[v, .bool true]) W := by kernel_rfl
/-- The picture of a code of the text s. -/
structure DrawnCode (w : World) (G C W H : Nat) (k l q A B : Nat) (s : ByteArray) (x m lp tp : Nat) (M : Nat → Nat → Int) (bits : List Bool) : Prop where
  mask : x < 8
  rows : ∃ rows, RowsFor (payload (k + 1) l s) (words (k + 1)) (nData (k + 1) l) (lev (k + 1) (lix l)).count (lev (k + 1) (lix l)).ec (lev (k + 1) (lix l)).count rows ∧
    bits = byteBits (ilv (rows.map (·.1)) (maxLens (words (k + 1)) (nData (k + 1) l) (lev (k + 1) (lix l)).count (lev (k + 1) (lix l)).count) ++ ilv (rows.map (·.2)) (lev (k + 1) (lix l)).ec)
  mat : M = (laid bits x (21 + 4 * k) (fixed (21 + 4 * k) k l x) (10 + 2 * k) 0).2
  shape : Shape (21 + 4 * k) q A B W H m lp tp
  pic : ∃ ws, GM w G C W H ((W + 31) / 32) ws (picUp M (21 + 4 * k) lp tp m (21 + 4 * k) 0)
set_option maxRecDepth 100000 in
set_option maxHeartbeats 4000000 in
theorem writer_c {w : World} {mp : Nat} {es : Array MapEntry} (hM : HMap w mp es) (k1 : Lacks es 1) (k12 : Lacks es 12) (k10 : Lacks es 10) (k11 : Lacks es 11) (s : ByteArray) (h0 : 0 < s.size) (hs : s.size ≤ 200) (k l q A B : Nat) (hk7 : k < 7) (hl : l < 4) (hq : q ≤ 20) (hA : A ≤ 300) (hB : B ≤ 300)
    (g0 : Holds es 0 (.iface 46 (intc l))) (g5 : Holds es 5 (.iface 3 (intc q)))
    (hK : fits (k + 1) l (segBits s).length = true) (hlo : ∀ j, 1 ≤ j → j < k + 1 → fits j l (segBits s).length = false)
    (hall : ∀ bs : List Bool, bs.length = 8 * words (k + 1) → ∀ x, x < 8 → (laid bs x (21 + 4 * k) (fixed (21 + 4 * k) k l x) (10 + 2 * k) 0).1 = bs.length)
    (W H m lp tp : Nat) (sh : Shape (21 + 4 * k) q A B W H m lp tp) (self : Value) :
    Calls Tryz.prog 14 #[self, .string s, .int .i64 11, .int .i64 (A : Int), .int .i64 (B : Int), .map (some mp)] w fun e w' =>
      (∃ G C x M bits, e = .returned (.tuple #[ptv G, .nilIface]) ∧ DrawnCode w' G C W H k l q A B s x m lp tp M bits) ∧ Kept [] w w' := by
  have L0 := hM.holds g0
  have L5 := hM.holds g5
  have C1 := encodeText_c hM k1 k12 k10 k11 s h0 hs k l hk7 hl hK hlo hall
  have i0 : (0 : Int) < s.size := by omega
  have i1 : ¬ (s.size : Int) = 0 := by omega
  have i2 : (0 : Int) ≤ A := by omega
  have i3 : (0 : Int) ≤ B := by omega
  have hne := run_neq_map_nil (P := Tryz.prog) (w := w) 47 45 20 (some mp) Tryz.underlying47
  have a46 := assert46 w (intc l)
  have a3 := assert3 w (intc q)
  have hsz : ¬ s.size = 0 := by omega
  clear hM g0 g5 hall hlo hK
  go_enter Tryz.func14, Tryz.ntmps14
  go_wp2_with fail
  refine C1.mono ?_
  rintro e w1 ⟨⟨Q, x, M, bits, rfl, hc⟩, hk1⟩
  obtain ⟨V, MB, R, hq1, hbm⟩ := hc.cells
  have c1 := hc.mask
  have c2 := Lib.hid hc.rows
  have c3 := Lib.hid hc.mat
  clear L0 L5 C1 hc
  go_wp2_with fail
  refine (render_c hq1 hbm (by omega) (by omega) q A B W H m lp tp hq hA hB (by omega) sh).mono ?_
  rintro e w2 ⟨⟨G, C, ws, rfl, hg, _, _⟩, hk2⟩
  go_wp2_with fail
  go_ret2
  exact ⟨⟨G, C, x, M, bits, rfl, c1, c2.out, c3.out, sh, ws, hg⟩, hk1.trans0 hk2⟩
end

section
/-- Block R holds H rows of W booleans each, in the blocks behind it. -/
structure BR (w : World) (R H W : Nat) (f : Nat → Nat → Bool) : Prop where
  rows : Blk w R (rowOf H fun y => slv (R + 1 + y) W W) 57
  row : ∀ y, y < H → Blk w (R + 1 + y) (rowOf W fun x => .bool (f y x)) 4
theorem BR.kept {w w' : World} {R H W : Nat} {f : Nat → Nat → Bool} {S : List Nat} (h : BR w R H W f) (hk : Kept S w w') (hS : ∀ x ∈ S, x < R ∨ R + H < x) : BR w' R H W f :=
  ⟨hk.blk h.rows (fun hx => by have := hS _ hx; omega), fun y hy => hk.blk (h.row y hy) (fun hx => by have := hS _ hx; omega)⟩
set_option maxRecDepth 100000 in
set_option maxHeartbeats 2000000 in
theorem rowsOf_c {w : World} {B C W H rs : Nat} {ws : List Nat} {f : Nat → Nat → Bool} (h : GM w B C W H rs ws f) (hW : W ≤ 400) :
    Calls Tryz.prog 15 #[ptv B] w fun e w' => e = .returned (slv w.heap.size H H) ∧ BR w' w.heap.size H W f ∧ Kept [] w w' := by
  have hH := h.few2
  have hmk := mk_rows_bool (H : Int) (H : Int) H H rfl rfl (by omega) (by omega)
  have hmr := mk_bools (W : Int) (W : Int) W W rfl rfl (by omega) (by omega)
  have hb0 := Blk.new w (List.replicate H (Value.slice none 0 0)) 57
  rw [show (List.replicate H (Value.slice none 0 0)).toArray = Array.replicate H (Value.slice none 0 0) from by simp] at hb0
  have hk0 : Kept [] w (w.alloc (.cells (Array.replicate H (Value.slice none 0 0)) 57)) := (Kept.refl _ _).alloc _
  obtain ⟨R, hR⟩ : ∃ R, w.heap.size = R := ⟨_, rfl⟩
  have hs0 : (w.alloc (.cells (Array.replicate H (Value.slice none 0 0)) 57)).heap.size = R + 1 := by simp [hR]
  rw [hR] at hb0
  have HR := Lib.hid hR
  have Hh := Lib.hid h
  clear h
  go_enter Tryz.func15, Tryz.ntmps15
  go_wp2_with fail
  refine (gmHeight_c Hh.out).mono ?_
  rintro e wx ⟨rfl, rfl⟩
  go_wp2_with fail
  have hGW := Hh.out.kept hk0 (by simp) (by simp)
  generalize (w.alloc (.cells (Array.replicate H (Value.slice none 0 0)) 57)) = W0 at hb0 hk0 hs0 hGW ⊢
  have HGW := Lib.hid hGW
  clear hR hGW
  have hS0 : Hid (W0.heap.size = R + 1) := Lib.hid hs0
  have HGlt : Hid (B < R ∧ C < R) := Lib.hid ⟨by rw [← HR.out]; exact Hh.out.st.lt, by rw [← HR.out]; exact Hh.out.ar.lt⟩
  go_loopw [11] (fun a wr => ∃ i, i ≤ H ∧ a = intv i ∧ wr.heap.size = R + 1 + i ∧ Blk wr R (rowOf H fun y => if y < i then slv (R + 1 + y) W W else .slice none 0 0) 57 ∧
      (∀ y, y < i → Blk wr (R + 1 + y) (rowOf W fun x => .bool (f y x)) 4) ∧ Kept [R] W0 wr) (fun a _ => H - (intOf a).toNat)
  case atStart => exact ⟨0, by omega, rfl, hs0, by simpa [rowOf_const] using hb0, by intro y hy; omega, Kept.refl _ _⟩
  case round =>
    obtain ⟨i, hi, rfl, hs, hb, hrow, hk⟩ := hrel
    by_cases hlt : i < H
    · have hfr := hb.free i
      have hc0 := hb.at (rowOf_get _ hlt)
      simp only [Nat.lt_irrefl, if_false] at hc0
      have hGr := HGW.out.kept hk (by have := HGlt.out; simp; omega) (by have := HGlt.out; simp; omega)
      have hne : R ≠ R + 1 + i := by omega
      have HB := Lib.hid hb
      have hbn := Blk.new wr (List.replicate W (.bool false)) 4
      rw [show (List.replicate W (Value.bool false)).toArray = Array.replicate W (Value.bool false) from by simp, hs] at hbn
      have hRlt : R < R + 1 + i := by omega
      have HGr := Lib.hid hGr
      clear hb hGr
      go_wp2_with fail
      refine (gmWidth_c HGr.out).mono ?_
      rintro e wx ⟨rfl, rfl⟩
      go_wp2_with fail
      have hB2 : Blk ((wr.setCell ⟨R, i, none⟩ (slv (R + 1 + i) W W)).alloc (.cells (Array.replicate W (.bool false)) 4)) R (rowOf H fun y => if y < i + 1 then slv (R + 1 + y) W W else .slice none 0 0) 57 := by
        have h2 := (HB.out.set i (slv (R + 1 + i) W W)).alloc (.cells (Array.replicate W (.bool false)) 4)
        rw [rowOf_set] at h2
        rw [rowOf_congr (g := fun j => if j = i then slv (R + 1 + i) W W else if j < i then slv (R + 1 + j) W W else .slice none 0 0)]
        · exact h2
        · intro j _; by_cases e : j = i
          · subst e; simp
          · simp [e, show (j < i + 1) = (j < i) from by simp; omega]
      have hN2 : Blk ((wr.setCell ⟨R, i, none⟩ (slv (R + 1 + i) W W)).alloc (.cells (Array.replicate W (.bool false)) 4)) (R + 1 + i) (rowOf W fun x => if x < 0 then .bool (f i x) else .bool false) 4 := by
        have h3 := Blk.new (wr.setCell ⟨R, i, none⟩ (slv (R + 1 + i) W W)) (rowOf W fun _ => .bool false) 4
        rw [World.size_setCell, hs] at h3
        rw [show (Array.replicate W (Value.bool false)) = (rowOf W fun _ => .bool false).toArray from by rw [← rowOf_const]; simp]
        simpa using h3
      have hO2 : ∀ y, y < i → Blk ((wr.setCell ⟨R, i, none⟩ (slv (R + 1 + i) W W)).alloc (.cells (Array.replicate W (.bool false)) 4)) (R + 1 + y) (rowOf W fun x => .bool (f y x)) 4 :=
        fun y hy => ((hrow y hy).set_other (by simp; omega) _).alloc _
      have hK2 : Kept [R] W0 ((wr.setCell ⟨R, i, none⟩ (slv (R + 1 + i) W W)).alloc (.cells (Array.replicate W (.bool false)) 4)) := (hk.setCell (by simp) _).alloc _
      have hS2 : Hid (((wr.setCell ⟨R, i, none⟩ (slv (R + 1 + i) W W)).alloc (.cells (Array.replicate W (.bool false)) 4)).heap.size = R + 1 + (i + 1)) := Lib.hid (by simp [hs]; omega)
      generalize ((wr.setCell ⟨R, i, none⟩ (slv (R + 1 + i) W W)).alloc (.cells (Array.replicate W (.bool false)) 4)) = w2 at hB2 hN2 hO2 hK2 hS2 ⊢
      have hG2 := HGW.out.kept hK2 (by have := HGlt.out; simp; omega) (by have := HGlt.out; simp; omega)
      have HG2 := Lib.hid hG2
      have HB2 := Lib.hid hB2
      clear hbn hs hc0 hfr hG2 hrow hk HGr HB hmr
      go_loopw [25] (fun a wq => ∃ x, x ≤ W ∧ a = .int .i64 (x : Int) ∧ Blk wq (R + 1 + i) (rowOf W fun x' => if x' < x then .bool (f i x') else .bool false) 4 ∧ Kept [R + 1 + i] w2 wq ∧ wq.heap.size = R + 1 + (i + 1)) (fun a _ => W - (intOf a).toNat)
      case atStart => exact ⟨0, by omega, rfl, hN2, Kept.refl _ _, hS2.out⟩
      case round =>
        obtain ⟨x, hx, rfl, hb, hk, hs9⟩ := hrel
        have HS9 := Lib.hid hs9
        clear hs9
        by_cases hltx : x < W
        · have hg := HG2.out.kept hk (by have := HGlt.out; simp; omega) (by have := HGlt.out; simp; omega)
          have hc := (hk.blk HB2.out (by simp; omega)).at (rowOf_get _ hlt)
          simp only [Nat.lt_succ_self, if_true] at hc
          have hd := hb.at (rowOf_get _ hltx)
          simp only [Nat.lt_irrefl, if_false] at hd
          have hf := hb.free x
          have HB := Lib.hid hb
          obtain ⟨b, hbv⟩ : ∃ b, f i x = b := ⟨_, rfl⟩
          have HBV := Lib.hid hbv
          have HGQ := Lib.hid hg
          clear hb hbv hg
          go_wp2_with fail
          refine region_quiet_tail 10 (by kernel_rfl) (by kernel_rfl) ?_
          simp only [List.take_succ_cons, List.take_zero, List.drop_succ_cons, List.drop_zero]
          repeat (go_big_quiet_step (exact quiet_same (gmGet_c (HGQ.out.drewN _) hlt hltx HBV.out)))
          refine wpQuiet_nil ?_
          rintro _ ⟨nq, rfl⟩
          go_wp2_with fail
          go_roundw
          case rel =>
            refine ⟨x + 1, by omega, by go_num, ?_, (hk.drewN _).setCell (by simp) _, by rw [World.size_setCell]; exact HS9.out⟩
            have h2 := (HB.out.drewN nq).set x (.bool b)
            rw [rowOf_set] at h2
            rw [rowOf_congr (g := fun j => if j = x then .bool b else if j < x then .bool (f i j) else .bool false)]
            · exact h2
            · intro j _; by_cases e : j = x
              · subst e; simp [HBV.out]
              · simp [e, show (j < x + 1) = (j < x) from by simp; omega]
          case measure => simp [intOf]; omega
        · obtain rfl : x = W := by omega
          have hB3 := hk.blk HB2.out (by simp; omega)
          have hk2 : Kept [R] W0 wr := hK2.trans hk (fun z hz hl => by have := hK2.size; have := hS0.out; simp at hz; omega)
          have hrow2 : ∀ y, y < i + 1 → Blk wr (R + 1 + y) (rowOf x fun x => .bool (f y x)) 4 := fun y hy => by
            rcases Nat.lt_or_ge y i with h | h
            · exact hk.blk (hO2 y h) (by simp; omega)
            · obtain rfl : y = i := by omega
              rw [rowOf_congr (g := fun x' => if x' < x then .bool (f y x') else .bool false) (fun j hj => by simp [hj])]
              exact hb
          go_wp2_with fail
          go_roundw
          case rel => exact ⟨i + 1, by omega, by go_num, HS9.out, hB3, hrow2, hk2⟩
          case measure => simp [intOf]; omega
    · obtain rfl : i = H := by omega
      go_wp2_with fail
      go_ret
      have hsz := HR.out
      refine ⟨by rw [hsz]; rfl, ?_, ?_⟩
      · rw [hsz]
        exact ⟨by rw [rowOf_congr (g := fun y => if y < i then slv (R + 1 + y) W W else .slice none 0 0) (fun j hj => by simp [hj])]; exact hb, hrow⟩
      · exact hk0.trans hk (fun z hz hl => by simp at hz; omega)
end
end Go.Proofs.YtplpafbkalkchaaGreatDoor
