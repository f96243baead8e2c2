/- Walk: the black point of a histogram of two grays. Walk: the black point of a histogram of two grays. -/
import Derived.Deep.CutRange
import Derived.Test.YtplpafbkalkchaaGreatDoorW17
namespace Go.Proofs.YtplpafbkalkchaaGreatDoor
open Go Go.RowKit Go.Proofs
set_option linter.all false

section
/-- How often each of 32 grays stands: D nD times, L nL times. -/
def bkt (D L nD nL i : Nat) : Nat := if i = D then nD else if i = L then nL else 0
def Peak (D L nD nL x fs fp : Nat) : Prop := (x ≤ D → fs = 0 ∧ fp = 0) ∧ (D < x ∧ x ≤ L → fs = nD ∧ (0 < nD → fp = D) ∧ (nD = 0 → fp = 0)) ∧ (L < x → (nD < nL → fs = nL ∧ fp = L) ∧ (nL ≤ nD → fs = nD ∧ fp = D))
theorem Peak.up {D L nD nL x fs fp : Nat} (h : Peak D L nD nL x fs fp) (hDL : D < L) (hb : fs < bkt D L nD nL x) : Peak D L nD nL (x + 1) (bkt D L nD nL x) x := by
  obtain ⟨h1, h2, h3⟩ := h
  unfold bkt at *
  by_cases e : x = D
  · subst e
    simp only [↓reduceIte] at *
    refine ⟨fun _ => by omega, fun _ => ⟨rfl, fun _ => rfl, fun _ => by omega⟩, fun _ => by omega⟩
  · rw [if_neg e] at *
    by_cases e2 : x = L
    · subst e2
      simp only [↓reduceIte] at *
      have := (h2 ⟨by omega, by omega⟩).1
      refine ⟨fun _ => by omega, fun _ => by omega, fun _ => ⟨fun _ => ⟨rfl, rfl⟩, fun _ => by omega⟩⟩
    · rw [if_neg e2] at hb; omega
theorem Peak.stay {D L nD nL x fs fp : Nat} (h : Peak D L nD nL x fs fp) (hDL : D < L) (hnL : 0 < nL) (hb : ¬ fs < bkt D L nD nL x) : Peak D L nD nL (x + 1) fs fp := by
  obtain ⟨h1, h2, h3⟩ := h
  unfold bkt at *
  by_cases e : x = D
  · subst e
    simp only [↓reduceIte] at *
    have h4 := h1 (Nat.le_refl _)
    refine ⟨fun _ => by omega, fun _ => ⟨by omega, fun _ => by omega, fun _ => h4.2⟩, fun _ => by omega⟩
  · rw [if_neg e] at *
    by_cases e2 : x = L
    · subst e2
      simp only [↓reduceIte] at *
      have h4 := h2 ⟨by omega, by omega⟩
      refine ⟨fun _ => by omega, fun _ => by omega, fun _ => ⟨fun _ => by omega, fun _ => ⟨h4.1, h4.2.1 (by omega)⟩⟩⟩
    · refine ⟨fun _ => h1 (by omega), fun _ => h2 (by omega), fun _ => h3 (by omega)⟩
/-- The second peak so far, where only T scores, S. -/
def Second (T S x sp sc : Nat) : Prop := (x ≤ T → sp = 0 ∧ sc = 0) ∧ (T < x → (0 < S → sp = T ∧ sc = S) ∧ (S = 0 → sp = 0 ∧ sc = 0))
theorem Second.up {T S x sp sc : Nat} (h : Second T S x sp sc) (hb : sc < if x = T then S else 0) : Second T S (x + 1) x (if x = T then S else 0) := by
  obtain ⟨h1, h2⟩ := h
  by_cases e : x = T
  · subst e
    simp only [↓reduceIte] at *
    refine ⟨fun _ => by omega, fun _ => ⟨fun _ => ⟨rfl, rfl⟩, fun _ => by omega⟩⟩
  · rw [if_neg e] at hb; omega
theorem Second.stay {T S x sp sc : Nat} (h : Second T S x sp sc) (hb : ¬ sc < if x = T then S else 0) : Second T S (x + 1) sp sc := by
  obtain ⟨h1, h2⟩ := h
  by_cases e : x = T
  · subst e
    simp only [↓reduceIte] at *
    have := h1 (Nat.le_refl _)
    refine ⟨fun _ => by omega, fun _ => ⟨fun _ => by omega, fun _ => this⟩⟩
  · exact ⟨fun _ => h1 (by omega), fun _ => h2 (by omega)⟩
/-- The score of a valley at y. -/
def vsc (F L y : Nat) : Nat := (y - F) * (y - F) * (L - y)
def Valley (F L mx x v : Nat) (t : Int) : Prop := F < v ∧ v < L ∧ x < L ∧ F ≤ x ∧ (x = L - 1 → t = -1) ∧ (x < L - 1 → t = ((vsc F L v * mx : Nat) : Int)) ∧ ∀ y, x < y → y < L → vsc F L y * mx ≤ vsc F L v * mx
theorem Valley.up {F L mx x v : Nat} {t : Int} (h : Valley F L mx x v t) (hx : F < x) (hb : t < ((vsc F L x * mx : Nat) : Int)) : Valley F L mx (x - 1) x ((vsc F L x * mx : Nat) : Int) := by
  obtain ⟨h1, h2, h3, h4, h5, h6, h7⟩ := h
  refine ⟨hx, h3, by omega, by omega, fun h => by omega, fun _ => rfl, fun y hy1 hy2 => ?_⟩
  rcases Nat.eq_or_lt_of_le (show x ≤ y by omega) with rfl | hlt
  · exact Nat.le_refl _
  · have h8 := h7 y hlt hy2
    have h9 := h6 (by omega)
    rw [h9] at hb
    have : vsc F L v * mx < vsc F L x * mx := by exact_mod_cast hb
    omega
theorem Valley.stay {F L mx x v : Nat} {t : Int} (h : Valley F L mx x v t) (hx : F < x) (hb : ¬ t < ((vsc F L x * mx : Nat) : Int)) : Valley F L mx (x - 1) v t := by
  obtain ⟨h1, h2, h3, h4, h5, h6, h7⟩ := h
  have hlt : x < L - 1 := by
    rcases Nat.lt_or_ge x (L - 1) with h | h
    · exact h
    · exfalso
      have := h5 (by omega)
      apply hb
      rw [this]
      have : (0 : Int) ≤ ((vsc F L x * mx : Nat) : Int) := Int.natCast_nonneg _
      omega
  refine ⟨h1, h2, by omega, by omega, fun h => by omega, fun _ => h6 hlt, fun y hy1 hy2 => ?_⟩
  rcases Nat.eq_or_lt_of_le (show x ≤ y by omega) with rfl | hlt'
  · have h9 := h6 hlt
    rw [h9] at hb
    have : ¬ (vsc F L v * mx < vsc F L x * mx) := by exact_mod_cast hb
    omega
  · exact h7 y hlt' hy2
end

section
theorem bkt_le {D L nD nL i : Nat} (h1 : nD ≤ 1000) (h2 : nL ≤ 1000) : bkt D L nD nL i ≤ 1000 := by
  unfold bkt; split
  · omega
  · split <;> omega
theorem score_at {D L nD nL fp T S x : Nat} (hDL : D < L) (hc : (nL ≤ nD ∧ fp = D ∧ T = L ∧ S = nL * (L - D) * (L - D)) ∨ (nD < nL ∧ fp = L ∧ T = D ∧ S = nD * (L - D) * (L - D))) :
    (bkt D L nD nL x : Int) * ((x : Int) - fp) * ((x : Int) - fp) = ((if x = T then S else 0 : Nat) : Int) := by
  unfold bkt
  rcases hc with ⟨_, rfl, rfl, rfl⟩ | ⟨_, rfl, rfl, rfl⟩
  · by_cases e : x = fp
    · subst e
      simp only [if_neg (show ¬ x = T by omega)]; simp
    · rw [if_neg e]
      by_cases e2 : x = T
      · subst e2; simp only [↓reduceIte]; push_cast
        rw [Int.natCast_sub (by omega)]
      · rw [if_neg e2, if_neg e2]; simp
  · by_cases e : x = T
    · subst e
      simp only [↓reduceIte]; push_cast
      rw [Int.natCast_sub (by omega)]
      have : ((x : Int) - fp) = -((fp : Int) - x) := by omega
      rw [this, Int.mul_neg, Int.mul_neg, Int.neg_mul, Int.neg_neg]
    · rw [if_neg e, if_neg e]
      by_cases e2 : x = fp
      · subst e2; simp
      · rw [if_neg e2]; simp
theorem two_le {a b n : Nat} (ha : a ≤ n) (hb : b ≤ 32) : a * b ≤ n * 32 := Nat.mul_le_mul ha hb
theorem prod_small (b x fp : Nat) (hb : b ≤ 1000) (hx : x < 32) (hf : fp < 32) : -32000 ≤ (b : Int) * ((x : Int) - fp) ∧ (b : Int) * ((x : Int) - fp) ≤ 32000 := by
  rcases Nat.le_total fp x with h | h
  · have e : (b : Int) * ((x : Int) - fp) = ((b * (x - fp) : Nat) : Int) := by push_cast; rw [Int.natCast_sub h]
    have := two_le (b := x - fp) hb (by omega)
    rw [e]; omega
  · have e : (b : Int) * ((x : Int) - fp) = -((b * (fp - x) : Nat) : Int) := by
      push_cast; rw [Int.natCast_sub h, ← Int.mul_neg]; congr 1; omega
    have := two_le (b := fp - x) hb (by omega)
    rw [e]; omega
set_option maxRecDepth 100000 in
set_option maxHeartbeats 8000000 in
theorem est_c {w : World} {K : Nat} (D L nD nL : Nat) (hD : D ≤ 10) (hL : 16 ≤ L) (hL2 : L < 32) (h1 : nD ≤ 1000) (h2 : nL ≤ 1000) (h3 : 1 ≤ nL) (hb : Blk w K (rowOf 32 fun i => .int .i64 (bkt D L nD nL i : Int)) 3) (self : Value) :
    Calls Tryz.prog 317 #[self, slv K 32 32] w fun e w' => (∃ v : Nat, e = .returned (.tuple #[.int .i64 ((v : Int) * 8), .nilIface]) ∧ (if 0 < nD then D else 0) < v ∧ v < L ∧
      ∀ y, (if 0 < nD then D else 0) < y → y < L → vsc (if 0 < nD then D else 0) L y ≤ vsc (if 0 < nD then D else 0) L v) ∧ w = w' := by
  have HB := Lib.hid hb
  clear hb
  obtain ⟨fp, T, S, hcase⟩ : ∃ fp T S, (nL ≤ nD ∧ fp = D ∧ T = L ∧ S = nL * (L - D) * (L - D)) ∨ (nD < nL ∧ fp = L ∧ T = D ∧ S = nD * (L - D) * (L - D)) := by
    rcases Nat.lt_or_ge nD nL with h | h
    · exact ⟨_, _, _, .inr ⟨h, rfl, rfl, rfl⟩⟩
    · exact ⟨_, _, _, .inl ⟨h, rfl, rfl, rfl⟩⟩
  have hfp : fp < 32 := by omega
  have hT : T < 32 := by omega
  have hS : S ≤ 1024000 := by
    rcases hcase with ⟨_, _, _, rfl⟩ | ⟨_, _, _, rfl⟩
    · exact Nat.mul_le_mul (two_le (b := L - D) h2 (by omega)) (show L - D ≤ 32 by omega)
    · exact Nat.mul_le_mul (two_le (b := L - D) h1 (by omega)) (show L - D ≤ 32 by omega)
  have HC := Lib.hid hcase
  clear hcase
  obtain ⟨F, hF⟩ : ∃ F, (if 0 < nD then D else 0) = F := ⟨_, rfl⟩
  have HF := Lib.hid hF
  rw [hF]
  clear hF
  go_enter Tryz.func317, Tryz.ntmps317
  go_wp2_with fail
  go_loopw [7, 8, 9, 10] (fun s7 s8 s9 s10 wr => ∃ x fs p : Nat, x ≤ 32 ∧ s7 = .int .i64 (fs : Int) ∧ s8 = .int .i64 (p : Int) ∧ s9 = .int .i64 (fs : Int) ∧ s10 = .int .i64 (x : Int) ∧ Peak D L nD nL x fs p ∧ fs ≤ 1000 ∧ w = wr) (fun _ _ _ s _ => (32 - intOf s).toNat)
  case atStart => exact ⟨0, 0, 0, by omega, rfl, rfl, rfl, rfl, ⟨fun _ => ⟨rfl, rfl⟩, fun h => by omega, fun h => by omega⟩, by omega, rfl⟩
  case round =>
    obtain ⟨x, fs, p, hx, rfl, rfl, rfl, rfl, hp, hfs, rfl⟩ := hrel
    have HP := Lib.hid hp
    have ifs : (fs : Int) ≤ 1000 := by omega
    clear hp
    by_cases hlt : x < 32
    · have hi : (x : Int) < 32 := by omega
      have c1 := HB.out.at (rowOf_get (n := 32) (f := fun i => .int .i64 (bkt D L nD nL i : Int)) (i := x) hlt)
      obtain ⟨b, hbe⟩ : ∃ b, bkt D L nD nL x = b := ⟨_, rfl⟩
      have hb9 : b ≤ 1000 := by rw [← hbe]; exact bkt_le h1 h2
      rw [hbe] at c1
      by_cases hgt : fs < b
      · have hgi : (fs : Int) < b := by omega
        have HN := HP.out.up (by omega) (by rw [hbe]; exact hgt)
        rw [hbe] at HN
        have HN' := Lib.hid HN
        clear hbe HN
        go_wp2_with fail
        go_roundw
        case rel => exact ⟨x + 1, b, x, by omega, rfl, rfl, rfl, by go_num, HN'.out, hb9, by first | exact rfl | exact trivial⟩
        case measure => simp [intOf]; omega
      · have hgi : ¬ (fs : Int) < b := by omega
        have HN' := Lib.hid (HP.out.stay (by omega) (by omega) (by rw [hbe]; exact hgt))
        clear hbe
        go_wp2_with fail
        go_roundw
        case rel => exact ⟨x + 1, fs, p, by omega, rfl, rfl, rfl, by go_num, HN'.out, hfs, by first | exact rfl | exact trivial⟩
        case measure => simp [intOf]; omega
    · obtain rfl : x = 32 := by omega
      have hpf : p = fp := by
        have h5 := HP.out.2.2 (by omega)
        rcases HC.out with ⟨a, rfl, _, _⟩ | ⟨a, rfl, _, _⟩
        · exact (h5.2 a).2
        · exact (h5.1 a).2
      have hmx : 1 ≤ fs := by
        have h5 := HP.out.2.2 (by omega)
        rcases Nat.lt_or_ge nD nL with h | h
        · have := (h5.1 h).1; omega
        · have := (h5.2 h).1; omega
      subst hpf
      clear HP
      go_wp2_with fail
      go_loopw [11, 12, 13] (fun s11 s12 s13 wr => ∃ x sp sc : Nat, x ≤ 32 ∧ s11 = .int .i64 (sp : Int) ∧ s12 = .int .i64 (sc : Int) ∧ s13 = .int .i64 (x : Int) ∧ Second T S x sp sc ∧ sc ≤ 1024000 ∧ sp ≤ 32 ∧ w = wr) (fun _ _ s _ => (32 - intOf s).toNat)
      case atStart => exact ⟨0, 0, 0, by omega, rfl, rfl, rfl, ⟨fun _ => ⟨rfl, rfl⟩, fun h => by omega⟩, by omega, by omega, rfl⟩
      case round =>
        obtain ⟨x, sp, sc, hx, rfl, rfl, rfl, hp, hsc, hsp, rfl⟩ := hrel
        have HP := Lib.hid hp
        have isc : (sc : Int) ≤ 1024000 := by omega
        have isp : (sp : Int) ≤ 32 := by omega
        clear hp
        by_cases hlt : x < 32
        · have hi : (x : Int) < 32 := by omega
          have c1 := HB.out.at (rowOf_get (n := 32) (f := fun i => .int .i64 (bkt D L nD nL i : Int)) (i := x) hlt)
          have hsat := score_at (x := x) (by omega) HC.out
          have hps := prod_small (bkt D L nD nL x) x p (bkt_le h1 h2) hlt hfp
          generalize bkt D L nD nL x = b at c1 hsat hps
          obtain ⟨d, hd⟩ : ∃ d : Int, (x : Int) - (p : Int) = d := ⟨_, rfl⟩
          rw [hd] at hsat hps
          obtain ⟨q, hq⟩ : ∃ q : Int, (b : Int) * d = q := ⟨_, rfl⟩
          rw [hq] at hsat hps
          have d1 : -32 ≤ d := by omega
          have d2 : d ≤ 32 := by omega
          obtain ⟨e, he⟩ : ∃ e : Nat, (if x = T then S else 0) = e := ⟨_, rfl⟩
          rw [he] at hsat
          have he9 : e ≤ 1024000 := by rw [← he]; split <;> omega
          obtain ⟨q1, q2⟩ := hps
          by_cases hgt : sc < e
          · have hgi : (sc : Int) < e := by omega
            have HN := HP.out.up (by rw [he]; exact hgt)
            rw [he] at HN
            have HN' := Lib.hid HN
            clear he HN
            go_wp2_with fail
            go_roundw
            case rel => exact ⟨x + 1, x, e, by omega, rfl, rfl, by go_num, HN'.out, he9, by omega, by first | exact rfl | exact trivial⟩
            case measure => simp [intOf]; omega
          · have hgi : ¬ (sc : Int) < e := by omega
            have HN' := Lib.hid (HP.out.stay (by rw [he]; exact hgt))
            clear he
            go_wp2_with fail
            go_roundw
            case rel => exact ⟨x + 1, sp, sc, by omega, rfl, rfl, by go_num, HN'.out, hsc, hsp, by first | exact rfl | exact trivial⟩
            case measure => simp [intOf]; omega
        · obtain rfl : x = 32 := by omega
          have hF := HF.out
          have hFD : F ≤ 10 := by rw [← hF]; split <;> omega
          have hFz : Hid (∀ y, F < y → y < L → bkt D L nD nL y = 0) := Lib.hid (by
            intro y hy1 hy2
            unfold bkt
            by_cases e : y = D
            · rw [if_pos e]; rw [← hF] at hy1; split at hy1 <;> omega
            · rw [if_neg e, if_neg (by omega)])
          have hord : Hid ((p = F ∧ sp = L) ∨ (p = L ∧ sp = F)) := Lib.hid (by
            have h5 := HP.out.2 hT
            rcases HC.out with ⟨a, rfl, rfl, rfl⟩ | ⟨a, rfl, rfl, rfl⟩
            · left
              have hpos : 0 < nL * (T - p) * (T - p) := Nat.mul_pos (Nat.mul_pos (by omega) (by omega)) (by omega)
              exact ⟨by rw [← hF, if_pos (by omega)], (h5.1 hpos).1⟩
            · right
              refine ⟨rfl, ?_⟩
              rcases Nat.eq_zero_or_pos nD with h0 | h0
              · rw [← hF, if_neg (by omega)]
                refine (h5.2 ?_).1
                rw [h0, Nat.zero_mul, Nat.zero_mul]
              · rw [← hF, if_pos h0]
                refine (h5.1 ?_).1
                exact Nat.mul_pos (Nat.mul_pos h0 (by omega)) (by omega))
          clear hF HP HC isc isp
          obtain ⟨wo, hwo⟩ : ∃ wo : World, wo = w := ⟨_, rfl⟩
          have HWO := Lib.hid hwo
          clear hwo
          go_upto_if 72 with fail
          go_cut [8, 11] from 70 to 75 (fun v8 v11 wx => v8 = .int .i64 (F : Int) ∧ v11 = .int .i64 (L : Int) ∧ w = wx)
          case first =>
            rcases hord.out with ⟨e1, e2⟩ | ⟨e1, e2⟩
            · have e3 : ¬ (sp : Int) < p := by omega
              subst e1; subst e2
              go_wp2_with fail
              go_meet
              exact ⟨rfl, rfl, rfl⟩
            · have e3 : (sp : Int) < p := by omega
              subst e1; subst e2
              go_wp2_with fail
              go_meet
              exact ⟨rfl, rfl, rfl⟩
          case rest =>
            obtain ⟨rfl, rfl, rfl⟩ := hcut
            have g1 : ¬ (L : Int) - (F : Int) ≤ 2 := by omega
            have g2 : (L : Int) < 32 := by omega
            have g3 : (F : Int) ≤ 10 := by omega
            have g4 : (16 : Int) ≤ L := by omega
            have g5 : (L : Int) - 1 = ((L - 1 : Nat) : Int) := by omega
            go_wp2_with fail
            go_loopw [16, 17, 18] (fun s16 s17 s18 wr => ∃ (x v : Nat) (t : Int), s16 = .int .i64 (v : Int) ∧ s17 = .int .i64 t ∧ s18 = .int .i64 (x : Int) ∧ Valley F L fs x v t ∧ -1 ≤ t ∧ t ≤ 40000000 ∧ w = wr) (fun _ _ s _ => (intOf s - (F : Int)).toNat)
            case atStart => exact ⟨L - 1, L - 1, -1, by go_num, rfl, by go_num, ⟨by omega, by omega, by omega, by omega, fun _ => rfl, fun h => by omega, fun y h1 h2 => by omega⟩, by omega, by omega, rfl⟩
            case round =>
              obtain ⟨x, v, t, rfl, rfl, rfl, hv, ht1, ht2, rfl⟩ := hrel
              have hv2 := hv.2.1
              have hxL := hv.2.2.1
              have hxF := hv.2.2.2.1
              have HV := Lib.hid hv
              clear hv
              have xi : (x : Int) < L := by omega
              by_cases hgt : F < x
              · have gi : (F : Int) < x := by omega
                have c1 := HB.out.at (rowOf_get (n := 32) (f := fun i => .int .i64 (bkt D L nD nL i : Int)) (i := x) (by omega))
                rw [hFz.out x hgt hxL] at c1
                obtain ⟨d, hd⟩ : ∃ d, x - F = d := ⟨_, rfl⟩
                obtain ⟨e, he⟩ : ∃ e, L - x = e := ⟨_, rfl⟩
                have hdi : (x : Int) - (F : Int) = (d : Int) := by omega
                have hei : (L : Int) - (x : Int) = (e : Int) := by omega
                have d9 : d ≤ 32 := by omega
                have e9 : e ≤ 32 := by omega
                obtain ⟨q, hq⟩ : ∃ q, d * d = q := ⟨_, rfl⟩
                obtain ⟨r, hr⟩ : ∃ r, q * e = r := ⟨_, rfl⟩
                obtain ⟨z, hz⟩ : ∃ z, r * fs = z := ⟨_, rfl⟩
                have q9 : q ≤ 32 * 32 := by rw [← hq]; exact Nat.mul_le_mul d9 d9
                have r9 : r ≤ 32 * 32 * 32 := by rw [← hr]; exact Nat.mul_le_mul q9 e9
                have z9 : z ≤ 32 * 32 * 32 * 1000 := by rw [← hz]; exact Nat.mul_le_mul r9 hfs
                have qi : (d : Int) * (d : Int) = (q : Int) := by rw [← hq]; simp
                have ri : (q : Int) * (e : Int) = (r : Int) := by rw [← hr]; simp
                have zi : (r : Int) * (fs : Int) = (z : Int) := by rw [← hz]; simp
                have hvs : vsc F L x * fs = z := by unfold vsc; rw [hd, he, hq, hr, hz]
                have k1 : (q : Int) ≤ 1024 := by omega
                have k2 : (r : Int) ≤ 32768 := by omega
                have k3 : (z : Int) ≤ 32768000 := by omega
                have k4 : (d : Int) ≤ 32 := by omega
                have k5 : (e : Int) ≤ 32 := by omega
                have hx1 : (x : Int) - 1 = ((x - 1 : Nat) : Int) := by omega
                clear hd he hq hr hz
                by_cases hb : t < (z : Int)
                · have HN := HV.out.up hgt (by rw [hvs]; exact hb)
                  rw [hvs] at HN
                  have HN' := Lib.hid HN
                  have HX := Lib.hid hx1
                  clear HN hvs hx1
                  go_wp2_with fail
                  go_roundw
                  case rel => exact ⟨x - 1, x, (z : Int), rfl, rfl, by rw [← HX.out], HN'.out, by omega, by omega, by first | exact rfl | exact trivial⟩
                  case measure => simp [intOf]; omega
                · have HN' := Lib.hid (HV.out.stay hgt (by rw [hvs]; exact hb))
                  have HX := Lib.hid hx1
                  clear hvs hx1
                  go_wp2_with fail
                  go_roundw
                  case rel => exact ⟨x - 1, v, t, rfl, rfl, by rw [← HX.out], HN'.out, ht1, ht2, by first | exact rfl | exact trivial⟩
                  case measure => simp [intOf]; omega
              · obtain rfl : x = F := by omega
                have gi : ¬ (x : Int) < x := by omega
                have iv : (v : Int) < 32 := by omega
                have hfin : Hid (x < v ∧ v < L ∧ ∀ y, x < y → y < L → vsc x L y ≤ vsc x L v) := Lib.hid ⟨HV.out.1, hv2, fun y hy1 hy2 => by
                  have := HV.out.2.2.2.2.2.2 y hy1 hy2
                  exact Nat.le_of_mul_le_mul_right this (by omega)⟩
                clear HV
                go_wp2_with fail
                go_ret2
                obtain ⟨f1, f2, f3⟩ := hfin.out
                exact ⟨⟨v, rfl, f1, f2, f3⟩, rfl⟩
end
end Go.Proofs.YtplpafbkalkchaaGreatDoor
