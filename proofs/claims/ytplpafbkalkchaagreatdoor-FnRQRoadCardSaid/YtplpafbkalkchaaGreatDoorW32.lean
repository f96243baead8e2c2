/- Walk: the global binarizer. -/
import Derived.Test.YtplpafbkalkchaaGreatDoorW31
import Derived.Test.YtplpafbkalkchaaGreatDoorW30
import Derived.Test.YtplpafbkalkchaaGreatDoorW26
import Derived.Test.YtplpafbkalkchaaGreatDoorW01
namespace Go.Proofs.YtplpafbkalkchaaGreatDoor
open Go Go.RowKit Go.Proofs
set_option linter.all false

section
theorem m_width (b : Nat) (w : World) : (method 524 228 (.pointer (some ⟨b, 0, none⟩)) "GetWidth").run Tryz.prog w = .ok (331, .pointer (some ⟨b, 0, none⟩)) w := by kernel_rfl
theorem m_height (b : Nat) (w : World) : (method 524 228 (.pointer (some ⟨b, 0, none⟩)) "GetHeight").run Tryz.prog w = .ok (328, .pointer (some ⟨b, 0, none⟩)) w := by kernel_rfl
theorem m_row (b : Nat) (w : World) : (method 524 228 (.pointer (some ⟨b, 0, none⟩)) "GetRow").run Tryz.prog w = .ok (330, .pointer (some ⟨b, 0, none⟩)) w := by kernel_rfl
theorem m_matrix (b : Nat) (w : World) : (method 524 228 (.pointer (some ⟨b, 0, none⟩)) "GetMatrix").run Tryz.prog w = .ok (329, .pointer (some ⟨b, 0, none⟩)) w := by kernel_rfl
theorem n_row (b : Nat) (w : World) : (nilAhead 524 228 (.pointer (some ⟨b, 0, none⟩)) "GetRow").run Tryz.prog w = .ok (some false) w := by kernel_rfl
theorem getSource_c {w : World} {B : Nat} {t : TypeId} {u a b : Value} (h : Blk w B [.iface t u, a, b] 159) : Calls Tryz.prog 314 #[ptv B] w fun e w' => e = .returned (.iface t u) ∧ w = w' := by
  have h0 := h.at (i := 0) rfl
  clear h
  go_enter Tryz.func314, Tryz.ntmps314
  go_wp2_with fail
  go_ret
  exact ⟨rfl, rfl⟩
theorem and255 (p : Nat) (hp : p < 256) : bits .and .u8 (p : Int) 255 = (p : Int) := by
  have : ∀ p, p < 256 → bits .and .u8 ((p : Nat) : Int) 255 = ((p : Nat) : Int) := by decide +kernel
  exact this p hp
theorem bkt_at {D L a b : Nat} {i : Nat} (hi : i < 32) : (rowOf 32 fun i => Value.int .i64 (bkt D L a b i : Int))[i]? = some (.int .i64 (bkt D L a b i : Int)) := rowOf_get _ hi
theorem bkt_upD {D L a b : Nat} (hDL : D < L) (hL : L < 32) : (rowOf 32 fun i => Value.int .i64 (bkt D L a b i : Int)).set D (.int .i64 ((a : Int) + 1)) = rowOf 32 fun i => .int .i64 (bkt D L (a + 1) b i : Int) := by
  rw [rowOf_set]
  apply rowOf_congr
  intro j _
  unfold bkt
  by_cases e : j = D
  · rw [if_pos e, if_pos e]; simp
  · rw [if_neg e, if_neg e, if_neg e]
theorem bkt_upL {D L a b : Nat} (hDL : D < L) (hL : L < 32) : (rowOf 32 fun i => Value.int .i64 (bkt D L a b i : Int)).set L (.int .i64 ((b : Int) + 1)) = rowOf 32 fun i => .int .i64 (bkt D L a (b + 1) i : Int) := by
  rw [rowOf_set]
  apply rowOf_congr
  intro j _
  unfold bkt
  by_cases e : j = L
  · rw [if_pos e, if_neg (by omega), if_pos e]; simp
  · rw [if_neg e, if_neg e, if_neg e]
theorem bkt_zero (D L : Nat) : (rowOf 32 fun i => Value.int .i64 (bkt D L 0 0 i : Int)) = List.replicate 32 (.int .i64 0) := by
  rw [rowOf_const]
  apply rowOf_congr
  intro j _
  unfold bkt; split <;> simp
theorem valley_low : ∀ L, L < 32 → 16 ≤ L → ∀ v, v < 32 → 8 * v ≤ (8 * L + 7) / 3 → vsc 0 L v < vsc 0 L (2 * L / 3) := by decide +kernel
theorem valley_all (L : Nat) (h1 : L < 32) (h2 : 16 ≤ L) (v : Nat) (hv : v < L) (h : ∀ y, y < L → 0 < y → vsc 0 L y ≤ vsc 0 L v) : (8 * L + 7) / 3 < 8 * v := by
  rcases Nat.lt_or_ge ((8 * L + 7) / 3) (8 * v) with h3 | h3
  · exact h3
  · have h4 := valley_low L h1 h2 v (by omega) h3
    have h5 := h (2 * L / 3) (by omega) (by omega)
    omega
theorem threshold {dk lt D L a : Nat} (hD : dk / 8 = D) (hL : lt / 8 = L) (h3 : dk ≤ lt / 3) (hL16 : 16 ≤ L) (hL32 : L < 32) (v : Nat) (h1 : (if 0 < a then D else 0) < v) (h2 : v < L) (h4 : ∀ y, (if 0 < a then D else 0) < y → y < L → vsc (if 0 < a then D else 0) L y ≤ vsc (if 0 < a then D else 0) L v) :
    dk < 8 * v ∧ 8 * v ≤ lt := by
  rcases Nat.eq_zero_or_pos a with ha | ha
  · rw [if_neg (by omega)] at h1 h4
    have := valley_all L hL32 hL16 v h2 (fun y hy1 hy2 => h4 y hy2 hy1)
    omega
  · rw [if_pos ha] at h1
    omega
/-- f, as far as it has been drawn: all rows before y, of row y the columns before x. -/
def doneTo (f : Nat → Nat → Bool) (W y x : Nat) : Nat → Nat → Bool := fun y' x' => decide (x' < W) && decide (y' < y ∨ (y' = y ∧ x' < x)) && f y' x'
theorem doneTo_zero (f : Nat → Nat → Bool) (W : Nat) : doneTo f W 0 0 = fun _ _ => false := by
  funext y x; unfold doneTo; simp
theorem doneTo_dark {f : Nat → Nat → Bool} {W y x : Nat} (hx : x < W) (h : f y x = true) : updB (doneTo f W y x) y x true = doneTo f W y (x + 1) := by
  funext y' x'
  unfold updB doneTo
  by_cases e : y' = y ∧ x' = x
  · obtain ⟨rfl, rfl⟩ := e; simp [hx, h]
  · rw [if_neg e]
    have : decide (y' < y ∨ (y' = y ∧ x' < x)) = decide (y' < y ∨ (y' = y ∧ x' < x + 1)) := decide_eq_decide.2 (by omega)
    rw [this]
theorem doneTo_light {f : Nat → Nat → Bool} {W y x : Nat} (h : f y x = false) : doneTo f W y x = doneTo f W y (x + 1) := by
  funext y' x'
  unfold doneTo
  by_cases e : y' = y ∧ x' = x
  · obtain ⟨rfl, rfl⟩ := e; simp [h]
  · have : decide (y' < y ∨ (y' = y ∧ x' < x)) = decide (y' < y ∨ (y' = y ∧ x' < x + 1)) := decide_eq_decide.2 (by omega)
    rw [this]
theorem doneTo_row (f : Nat → Nat → Bool) (W y : Nat) : doneTo f W y W = doneTo f W (y + 1) 0 := by
  funext y' x'
  unfold doneTo
  by_cases e : x' < W
  · have : decide (y' < y ∨ (y' = y ∧ x' < W)) = decide (y' < y + 1 ∨ (y' = y + 1 ∧ x' < 0)) := decide_eq_decide.2 (by omega)
    rw [this]
  · simp [e]
/-- gs are the grays of f: dk where it is dark, lt where it is light. -/
structure Gray (f : Nat → Nat → Bool) (W H dk lt : Nat) (gs : List Nat) : Prop where
  at_ : ∀ y x, y < H → x < W → gs[y * W + x]? = some (if f y x then dk else lt)
  lt1 : 128 ≤ lt
  lt2 : lt < 256
  dk1 : dk ≤ lt / 3
  left : ∀ y, y < H → f y (W / 5) = false
set_option maxRecDepth 100000 in
set_option maxHeartbeats 8000000 in
theorem globalBlack_c {w : World} {B S W H D cap K : Nat} {a : Option Addr} {gs : List Nat} {f : Nat → Nat → Bool} {dk lt : Nat} (hB : Blk w B [.iface 228 (ptv S), .slice a 0 0, slv K 32 32] 159) (hK : Blk w K (List.replicate 32 (.int .i64 0)) 3) (hS : Src w S W H D cap gs) (hg : Gray f W H dk lt gs)
    (hW1 : 21 ≤ W) (hW2 : W ≤ 300) (hH1 : 21 ≤ H) (hH2 : H ≤ 300) :
    Calls Tryz.prog 311 #[ptv B] w fun e w' => (∃ G C ws, e = .returned (.tuple #[ptv G, .nilIface]) ∧ GM w' G C W H ((W + 31) / 32) ws (fun y x => decide (x < W) && f y x) ∧ w.heap.size ≤ G ∧ w.heap.size ≤ C) ∧ Kept [B, K] w w' := by
  have HB := Lib.hid hB
  have HK := Lib.hid hK
  have HS := Lib.hid hS
  have HG := Lib.hid hg
  clear hB hK hS hg
  have mw := m_width S
  have mh := m_height S
  have mm := m_matrix S
  go_enter Tryz.func311, Tryz.ntmps311
  go_wp2_with fail
  refine (getSource_c HB.out).mono ?_
  rintro e wx ⟨rfl, rfl⟩
  go_wp2_with fail
  refine (srcWidth_c HS.out).mono ?_
  rintro e wx ⟨rfl, rfl⟩
  go_wp2_with fail
  refine (srcHeight_c HS.out).mono ?_
  rintro e wx ⟨rfl, rfl⟩
  go_wp2_with fail
  refine (gmNew_c W H ((W + 31) / 32) (by omega) (by omega) (by omega) (by omega) rfl (by have : (W + 31) / 32 * H ≤ 10 * H := Nat.mul_le_mul_right _ (by omega); omega) w).mono ?_
  rintro e w1 ⟨rfl, hG, hk1⟩
  obtain ⟨G, hGd⟩ : ∃ G, w.heap.size + 1 = G := ⟨_, rfl⟩
  obtain ⟨C, hCd⟩ : ∃ C, w.heap.size = C := ⟨_, rfl⟩
  rw [hGd, hCd] at hG
  rw [hGd]
  have HGd := Lib.hid hGd
  have HCd := Lib.hid hCd
  generalize List.replicate ((W + 31) / 32 * H) 0 = ws0 at hG
  have HG1 := Lib.hid hG
  have HK1 := Lib.hid hk1
  have HB1 := Lib.hid (hk1.blk HB.out (by simp))
  have HKK1 := Lib.hid (hk1.blk HK.out (by simp))
  have HS1 := Lib.hid (HS.out.kept hk1 (by simp) (by simp))
  have HltB := Lib.hid HB.out.lt
  have HltK := Lib.hid HK.out.lt
  have HneKB : Hid (K ≠ B) := Lib.hid (by
    intro e
    have h1 := HB.out
    have h2 := HK.out
    rw [e] at h2
    have := h1.type h2
    exact absurd this (by decide))
  have HSB : Hid (S ≠ B ∧ S ≠ K ∧ D ≠ B ∧ D ≠ K ∧ S < w1.heap.size ∧ D < w1.heap.size) := Lib.hid (by
    obtain ⟨rest, hd⟩ := HS.out.data
    have h1 := HB.out
    have h2 := HK.out
    have h3 := HS.out.self
    have l1 := h3.lt
    have l2 := hd.lt
    have l3 := hk1.size
    refine ⟨fun e => ?_, fun e => ?_, fun e => ?_, fun e => ?_, by omega, by omega⟩
    · rw [e] at h3; exact absurd (h1.type h3) (by decide)
    · rw [e] at h3; exact absurd (h2.type h3) (by decide)
    · rw [e] at hd; exact absurd (h1.type hd) (by decide)
    · rw [e] at hd; exact absurd (h2.type hd) (by decide))
  clear hGd hCd hG hk1
  go_wp2_with fail
  refine (initArrays_c HB1.out _ HKK1.out (by simp) HneKB.out (by omega) hW2).mono ?_
  rintro e w2 ⟨rfl, hbin, hz, hk2⟩
  obtain ⟨L, hLd⟩ : ∃ L, w1.heap.size = L := ⟨_, rfl⟩
  rw [hLd] at hbin
  have HLd := Lib.hid hLd
  have HBIN := Lib.hid hbin
  have HZ := Lib.hid hz
  have HK2 := Lib.hid hk2
  have b2 := hbin.self.at (i := 2) rfl
  clear hLd hbin hz hk2
  go_wp2_with fail
  have hdk1 := HG.out.dk1
  have hlt1 := HG.out.lt1
  have hlt2 := HG.out.lt2
  obtain ⟨Dk, hDk⟩ : ∃ D, dk / 8 = D := ⟨_, rfl⟩
  obtain ⟨Lt, hLt⟩ : ∃ D, lt / 8 = D := ⟨_, rfl⟩
  have hD10 : Dk ≤ 10 := by omega
  have hL16 : 16 ≤ Lt := by omega
  have hL32 : Lt < 32 := by omega
  have HDK := Lib.hid hDk
  have HLT := Lib.hid hLt
  clear hDk hLt
  have mr := m_row S
  have nr := n_row S
  go_loopw [10] (fun s10 wr => ∃ (y a b : Nat) (cs : List Value), 1 ≤ y ∧ y ≤ 5 ∧ s10 = .int .i64 (y : Int) ∧ Blk wr K (rowOf 32 fun i => .int .i64 (bkt Dk Lt a b i : Int)) 3 ∧ Blk wr L cs 5 ∧ cs.length = W ∧ a + b ≤ 240 * (y - 1) ∧ (1 < y → 1 ≤ b) ∧ Kept [L, K] w2 wr) (fun s _ => (5 - intOf s).toNat)
  case atStart =>
    obtain ⟨cs, hc1, hc2⟩ := HBIN.out.row
    exact ⟨1, 0, 0, cs, by omega, by omega, rfl, by rw [bkt_zero]; exact HZ.out, hc1, hc2, by omega, by omega, Kept.refl _ _⟩
  case round =>
    obtain ⟨y, a, b, cs, hy1, hy5, rfl, hbk, hbl, hcl, hab, hb1, hk⟩ := hrel
    have hneL := HBIN.out.ne1
    have hneK := HBIN.out.ne3
    have hBr := hk.blk HBIN.out.self (by simp; exact ⟨fun e => hneL e.symm, fun e => HneKB.out e.symm⟩)
    by_cases hlt : y < 5
    · have hi : (y : Int) < 5 := by omega
      have hSr : Hid (Src wr S W H D cap gs) := Lib.hid (by
        obtain ⟨e1, e2, e3, e4, e5, e6⟩ := HSB.out
        have e7 := HLd.out
        exact (HS1.out.kept HK2.out (by simp [e1, e2]) (by simp [e3, e4])).kept hk (by simp; omega) (by simp; omega))
      have hSd : Hid (Src wr.drew S W H D cap gs) := Lib.hid (hSr.out.kept ((Kept.refl [] _).drew) (by simp) (by simp))
      obtain ⟨m, hm⟩ : ∃ m, H * y = m := ⟨_, rfl⟩
      have hm4 : m ≤ H * 4 := by rw [← hm]; exact Nat.mul_le_mul_left _ (by omega)
      have hmi : (H : Int) * (y : Int) = (m : Int) := by rw [← hm]; simp
      obtain ⟨r, hr⟩ : ∃ r, m / 5 = r := ⟨_, rfl⟩
      have hri : (m : Int) / 5 = (r : Int) := by omega
      have hrH : r < H := by omega
      have c1 := hBr.at (i := 1) rfl
      have mi9 : (m : Int) ≤ 1200 := by omega
      have HBK := Lib.hid hbk
      have HBL := Lib.hid hbl
      have HCL := Lib.hid hcl
      have HAB := Lib.hid hab
      have HB9 := Lib.hid hb1
      have HKK := Lib.hid hk
      clear hm hr hBr hbk hbl hcl hab hb1 hk
      go_upto_region 13 with fail
      obtain ⟨wo, hwo⟩ : ∃ wo : World, wo = wr := ⟨_, rfl⟩
      have HWO := Lib.hid hwo
      clear hwo
      go_cut [12, 13] from 53 to 66 (fun v12 v13 wx => v12 = slv L W W ∧ Hid (Blk wx L (((gs.drop (r * W)).take W).map u8c) 5 ∧ Kept [L] wr wx))
      case first =>
        go_region_with (go_at_call 330; refine (srcRow_c hSd.out (by omega) hW2 hH2 r hrH cs HBL.out.drew HCL.out).mono ?_; rintro e w3 ⟨rfl, hrow, hk3⟩)
        all_goals
          go_wp2_with fail
          go_meet
          exact ⟨rfl, Lib.hid ⟨hrow, ((Kept.refl [L] _).drew).then hk3⟩⟩
      case rest =>
        obtain ⟨rfl, hcut⟩ := hcut
        obtain ⟨hrow, hk3⟩ := hcut.out
        obtain ⟨x0, hx0⟩ : ∃ x, W / 5 = x := ⟨_, rfl⟩
        obtain ⟨x1, hx1⟩ : ∃ x, W * 4 / 5 = x := ⟨_, rfl⟩
        have q0 : (W : Int) / 5 = (x0 : Int) := by omega
        have q1 : (W : Int) * 4 / 5 = (x1 : Int) := by omega
        have q2 : x1 ≤ 240 := by omega
        have q3 : x0 + 4 ≤ x1 := by omega
        have q4 : x1 ≤ W := by omega
        have HX0 := Lib.hid hx0
        have hbk3 : Hid (Blk wc K (rowOf 32 fun i => .int .i64 (bkt Dk Lt a b i : Int)) 3) := Lib.hid (hk3.blk HBK.out (by simpa using fun e => hneK e.symm))
        have HROW := Lib.hid hrow
        have HK3 := Lib.hid hk3
        clear hx0 hx1 hrow hk3 hcut c1
        go_wp2_with fail
        go_loopw [15] (fun s15 wq => ∃ (x a b : Nat), x0 ≤ x ∧ x ≤ x1 ∧ s15 = .int .i64 (x : Int) ∧ Blk wq K (rowOf 32 fun i => .int .i64 (bkt Dk Lt a b i : Int)) 3 ∧ a + b ≤ 240 * (y - 1) + (x - x0) ∧ ((1 < y ∨ x0 < x) → 1 ≤ b) ∧ Kept [K] wc wq) (fun s _ => (x1 - (intOf s)).toNat)
        case atStart => exact ⟨x0, a, b, Nat.le_refl _, by omega, rfl, hbk3.out, by have := HAB.out; omega, fun h => HB9.out (by omega), Kept.refl _ _⟩
        case round =>
          clear hbk3
          obtain ⟨x, a2, b2, hxa, hxb, rfl, hbk, hab, hb1, hk⟩ := hrel
          by_cases hltx : x < x1
          · have ix : (x : Int) < x1 := by omega
            have hxW : x < W := by omega
            have hcell := (hk.blk HROW.out (by simpa using hneK)).at (i := x) (v := u8c (if f r x then dk else lt)) (by
              rw [List.getElem?_map, List.getElem?_take_of_lt hxW, List.getElem?_drop, HG.out.at_ r x hrH hxW]; rfl)
            have HBKx := Lib.hid hbk
            have hab9 : a2 + b2 ≤ 960 := by omega
            have HAB2 := Lib.hid hab
            have HB2 := Lib.hid hb1
            have HKx := Lib.hid hk
            have hD32 : Dk < 32 := by omega
            cases hfx : f r x
            · rw [hfx] at hcell
              simp only [Bool.false_eq_true, if_false] at hcell
              unfold u8c at hcell
              have hc2 := hbk.at (i := Lt) (bkt_at hL32)
              have hfr := hbk.free Lt
              have hbv : bkt Dk Lt a2 b2 Lt = b2 := by unfold bkt; rw [if_neg (by omega), if_pos rfl]
              rw [hbv] at hc2
              have p1 := and255 lt hlt2
              have p2 : (lt : Int) / 8 = (Lt : Int) := by have := HLT.out; omega
              have p3 : (b2 : Int) ≤ 960 := by omega
              have p4 : (lt : Int) < 256 := by omega
              clear hbk hab hb1 hk hbv
              go_wp2_with fail
              go_roundw
              case rel => exact ⟨x + 1, a2, b2 + 1, by omega, by omega, by go_num, by rw [← bkt_upL (by omega) hL32]; exact HBKx.out.set Lt _, by have := HAB2.out; omega, fun _ => by omega, HKx.out.setCell (by simp) _⟩
              case measure => simp [intOf]; omega
            · rw [hfx] at hcell
              simp only [if_true] at hcell
              unfold u8c at hcell
              have hne0 : Hid (x0 < x) := Lib.hid (by
                rcases Nat.eq_or_lt_of_le hxa with h | h
                · exfalso
                  have := HG.out.left r hrH
                  rw [HX0.out, h, hfx] at this; cases this
                · exact h)
              have hc2 := hbk.at (i := Dk) (bkt_at hD32)
              have hfr := hbk.free Dk
              have hbv : bkt Dk Lt a2 b2 Dk = a2 := by unfold bkt; rw [if_pos rfl]
              rw [hbv] at hc2
              have p0 : dk < 256 := by omega
              have p1 := and255 dk p0
              have p2 : (dk : Int) / 8 = (Dk : Int) := by have := HDK.out; omega
              have p3 : (a2 : Int) ≤ 960 := by omega
              have p4 : (dk : Int) < 256 := by omega
              clear hbk hab hb1 hk hbv
              go_wp2_with fail
              go_roundw
              case rel => exact ⟨x + 1, a2 + 1, b2, by omega, by omega, by go_num, by rw [← bkt_upD (by omega) hL32]; exact HBKx.out.set Dk _, by have := HAB2.out; omega, fun _ => HB2.out (.inr hne0.out), HKx.out.setCell (by simp) _⟩
              case measure => simp [intOf]; omega
          · obtain rfl : x = x1 := by omega
            have HBKx := Lib.hid hbk
            have HKx := Lib.hid hk
            have HB2 := Lib.hid hb1
            have hlen : Hid ((((gs.drop (r * W)).take W).map u8c).length = W) := Lib.hid (by
              rw [List.length_map, List.length_take, List.length_drop, HS.out.len]
              have h5 : r * W + W ≤ H * W := by rw [← Nat.succ_mul]; exact Nat.mul_le_mul_right _ hrH
              omega)
            have hab' : Hid (a2 + b2 ≤ 240 * (y + 1 - 1)) := Lib.hid (by omega)
            clear hbk hk hb1 hab
            go_wp2_with fail
            go_roundw
            case rel => exact ⟨y + 1, a2, b2, _, by omega, by omega, by go_num, HBKx.out, HKx.out.blk HROW.out (by simpa using hneK), hlen.out, hab'.out, fun _ => HB2.out (.inr (by omega)),
              ((HKK.out.trans HK3.out (by intro z hz _; simp at hz ⊢; exact .inl hz)).trans HKx.out (by intro z hz _; simp at hz ⊢; exact .inr hz))⟩
            case measure => simp [intOf]; omega
    · obtain rfl : y = 5 := by omega
      obtain ⟨w5, rfl⟩ : ∃ w5 : World, w5 = wr := ⟨_, rfl⟩
      have hb9 := hb1 (by omega)
      have hSr : Hid (Src w5 S W H D cap gs) := Lib.hid (by
        obtain ⟨e1, e2, e3, e4, e5, e6⟩ := HSB.out
        have e7 := HLd.out
        exact (HS1.out.kept HK2.out (by simp [e1, e2]) (by simp [e3, e4])).kept hk (by simp; omega) (by simp; omega))
      have HKK := Lib.hid hk
      have hest := est_c Dk Lt a b hD10 hL16 hL32 (by omega) (by omega) hb9 hbk (ptv B)
      have HTH := fun v h1 h2 h3 => Lib.hid (threshold (a := a) HDK.out HLT.out hdk1 hL16 hL32 v h1 h2 h3)
      clear hb1 hab hbk hbl hcl hBr hk
      go_wp2_with fail
      refine hest.mono ?_
      rintro e wx ⟨⟨v, rfl, hv1, hv2, hv3⟩, rfl⟩
      obtain ⟨t1, t2⟩ := (HTH v hv1 hv2 hv3).out
      clear hest HTH hv1 hv2 hv3
      obtain ⟨t, ht⟩ : ∃ t, 8 * v = t := ⟨_, rfl⟩
      have hti : (v : Int) * 8 = (t : Int) := by omega
      rw [ht] at t1 t2
      rw [hti]
      clear ht hti
      go_wp2_with fail
      refine (srcMatrix_c hSr.out).mono ?_
      rintro e wx ⟨rfl, rfl⟩
      obtain ⟨rest, hdat⟩ := hSr.out.data
      have HDAT := Lib.hid hdat
      have hlen9 : gs.length ≤ 90000 := by rw [HS.out.len]; exact Nat.le_trans (Nat.mul_le_mul hH2 hW2) (by omega)
      have HG5 : Hid (GM w5 G C W H ((W + 31) / 32) ws0 (doneTo f W 0 0)) := Lib.hid (by
        have h1 := HGd.out
        have h2 := HCd.out
        have h3 := HLd.out
        have l1 := HltB.out
        have l2 := HltK.out
        have l3 := HG1.out.st.lt
        have l4 := HG1.out.ar.lt
        rw [doneTo_zero]
        exact (HG1.out.kept HK2.out (by simp; omega) (by simp; omega)).kept HKK.out (by simp; omega) (by simp; omega))
      clear hdat
      go_wp2_with fail
      clear mw mh mm mr nr
      go_loopw [19] (fun s19 wq => ∃ (y : Nat) (ws : List Nat), y ≤ H ∧ s19 = .int .i64 (y : Int) ∧ GM wq G C W H ((W + 31) / 32) ws (doneTo f W y 0) ∧ Kept [C] w5 wq) (fun s _ => (H - intOf s).toNat)
      case atStart => exact ⟨0, ws0, by omega, rfl, HG5.out, Kept.refl _ _⟩
      case round =>
        obtain ⟨y, ws, hy, rfl, hgm, hk⟩ := hrel
        have HGM := Lib.hid hgm
        have HKx := Lib.hid hk
        clear hgm hk
        by_cases hlt : y < H
        · have hi : (y : Int) < H := by omega
          obtain ⟨o, ho⟩ : ∃ o, y * W = o := ⟨_, rfl⟩
          have hoi : (y : Int) * (W : Int) = (o : Int) := by rw [← ho]; simp
          have hoc : o + W ≤ gs.length := by rw [HS.out.len, ← ho, ← Nat.succ_mul]; exact Nat.mul_le_mul_right _ hlt
          have o9 : (o : Int) ≤ 90000 := by omega
          have HO := Lib.hid ho
          clear ho
          go_wp2_with fail
          obtain ⟨w6, rfl⟩ : ∃ w6 : World, w6 = wr := ⟨_, rfl⟩
          go_loopw [21] (fun s21 wq => ∃ (x : Nat) (ws : List Nat), x ≤ W ∧ s21 = .int .i64 (x : Int) ∧ GM wq G C W H ((W + 31) / 32) ws (doneTo f W y x) ∧ Kept [C] w5 wq) (fun s _ => (W - intOf s).toNat)
          case atStart => exact ⟨0, ws, by omega, rfl, HGM.out, HKx.out⟩
          case round =>
            obtain ⟨x, ws2, hx, rfl, hgm2, hk2⟩ := hrel
            have HGM2 := Lib.hid hgm2
            have HK2x := Lib.hid hk2
            by_cases hltx : x < W
            · have ix : (x : Int) < W := by omega
              have hcell := (hk2.blk HDAT.out (by have h1 := HCd.out; have h2 := HSB.out.2.2.2.2.2; have h3 := HS.out.data; obtain ⟨_, h3⟩ := h3; have := h3.lt; simp; omega)).at (i := o + x) (v := u8c (if f y x then dk else lt)) (by
                rw [List.getElem?_append_left (by rw [List.length_map]; omega), List.getElem?_map, ← HO.out, HG.out.at_ y x hlt hltx]; rfl)
              clear hgm2 hk2
              cases hfx : f y x
              · rw [hfx] at hcell
                simp only [Bool.false_eq_true, if_false] at hcell
                unfold u8c at hcell
                have p1 := and255 lt hlt2
                have p3 : ¬ (lt : Int) < t := by omega
                have p4 : (lt : Int) < 256 := by omega
                have H4 : Hid (GM wr G C W H ((W + 31) / 32) ws2 (doneTo f W y (x + 1))) := Lib.hid (by rw [← doneTo_light hfx]; exact HGM2.out)
                go_wp2_with fail
                go_roundw
                case rel => exact ⟨x + 1, ws2, by omega, by go_num, H4.out, HK2x.out⟩
                case measure => simp [intOf]; omega
              · rw [hfx] at hcell
                simp only [if_true] at hcell
                unfold u8c at hcell
                have p0 : dk < 256 := by omega
                have p1 := and255 dk p0
                have p3 : (dk : Int) < t := by omega
                have p4 : (dk : Int) < 256 := by omega
                have hx32 : x < 32 * ((W + 31) / 32) := by omega
                have hset := Lib.hid (gmSet_c HGM2.out hlt hx32)
                go_wp2_with fail
                refine hset.out.mono ?_
                rintro e w7 ⟨rfl, hg7, hk7⟩
                rw [doneTo_dark hltx hfx] at hg7
                have HG7 := Lib.hid hg7
                have HK7 := Lib.hid (HK2x.out.then hk7)
                clear hg7 hk7 hset
                go_wp2_with fail
                go_roundw
                case rel => exact ⟨x + 1, _, by omega, by go_num, HG7.out, HK7.out⟩
                case measure => simp [intOf]; omega
            · obtain rfl : x = W := by omega
              clear hgm2 hk2
              go_wp2_with fail
              go_roundw
              case rel => exact ⟨y + 1, ws2, by omega, by go_num, by rw [← doneTo_row]; exact HGM2.out, HK2x.out⟩
              case measure => simp [intOf]; omega
        · obtain rfl : y = H := by omega
          go_wp2_with fail
          go_ret2
          refine ⟨⟨G, C, ws, rfl, HGM.out.congr (fun y' x' h1 h2 => ?_), ?_, ?_⟩, ?_⟩
          · unfold doneTo; simp [h1]
          · have := HGd.out; omega
          · have := HCd.out; omega
          · have h1 := HCd.out
            have h2 := HLd.out
            have h3 := HK1.out.size
            have a1 : Kept [B, K] w w1 := HK1.out.mono (fun z hz _ => by simp at hz)
            have a2 : Kept [B, K] w w2 := a1.then HK2.out
            have a3 : Kept [B, K] w w5 := a2.trans HKK.out (fun z hz hl => by simp at hz ⊢; omega)
            exact a3.trans HKx.out (fun z hz hl => by simp at hz; omega)
end
end Go.Proofs.YtplpafbkalkchaaGreatDoor
