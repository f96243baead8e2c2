/- Walk: law 3. The view, opened to its cells and shut again. The row of law 3. The row of law 3: lifted. -/
import Derived.Lib.SmallJoins
import Derived.OpenShut
import Derived.Test.YtplpafbkalkchaaGreatDoorRows
import Derived.WalkKit
import Derived.ProofKit
import Derived.LaidMore
import Derived.Stop.Joined
import Derived.ChangeMaps5
import Derived.Lay
import Derived.MakeChecks
import Derived.Test.YtplpafbkalkchaaGreatDoorW50
import Derived.Test.YtplpafbkalkchaaGreatDoorW51
import Derived.Test.YtplpafbkalkchaaGreatDoorW29
import Derived.Test.YtplpafbkalkchaaGreatDoorW35
import Derived.Test.YtplpafbkalkchaaGreatDoorW36
import Derived.Test.YtplpafbkalkchaaGreatDoorW25
namespace Go.Proofs.YtplpafbkalkchaaGreatDoor
open Go Go.RowKit Go.Proofs
set_option linter.all false

section
set_option maxRecDepth 1000000 in
set_option maxHeartbeats 8000000 in
theorem road_c (s : ByteArray) (kd lv qz a b dk lt x0 x1 x2 x3 x4 : Nat) (pt : Bool) (hkd : kd < 256) (hlv : lv < 256) (hqz : qz < 256) (ha : a < 65536) (hb : b < 65536) (hdk : dk < 256) (hlt : lt < 256) (w : World) (hs : s.size ≤ 2147483647) :
    Calls Tryz.prog 3 #[.string s, .int .u8 (kd : Int), .int .u8 (lv : Int), .int .u8 (qz : Int), .int .u16 (a : Int), .int .u16 (b : Int), .agg #[.int .u8 (x0 : Int), .int .u8 (x1 : Int), .int .u8 (x2 : Int), .int .u8 (x3 : Int), .int .u8 (x4 : Int), .int .u8 (dk : Int), .int .u8 (lt : Int), .bool pt]] w fun e w' => e = .returned (.bool true) ∧ Kept [] w w' := by
  have hsi : (s.size : Int) ≤ 2147483647 := by omega
  have i1 : (kd : Int) < 256 := by omega
  have i2 : (lv : Int) < 256 := by omega
  have i3 : (qz : Int) < 256 := by omega
  have i4 : (a : Int) < 65536 := by omega
  have i5 : (b : Int) < 65536 := by omega
  have HS := Lib.hid hs
  have hsn : ¬ (2147483647 : Int) < (s.size : Int) := by omega
  clear hs hsi
  go_enter Tryz.func3, Tryz.ntmps3
  go_wp2_with fail
  have hb0 : Blk (w.alloc (Obj.cells #[Value.int .u8 (x0 : Int), Value.int .u8 (x1 : Int), Value.int .u8 (x2 : Int), Value.int .u8 (x3 : Int), Value.int .u8 (x4 : Int), Value.int .u8 (dk : Int), Value.int .u8 (lt : Int), Value.bool pt] 25)) w.heap.size [.int .u8 (x0 : Int), .int .u8 (x1 : Int), .int .u8 (x2 : Int), .int .u8 (x3 : Int), .int .u8 (x4 : Int), .int .u8 (dk : Int), .int .u8 (lt : Int), .bool pt] 25 := Blk.new w _ 25
  have hk0 : Kept [] w (w.alloc (Obj.cells #[Value.int .u8 (x0 : Int), Value.int .u8 (x1 : Int), Value.int .u8 (x2 : Int), Value.int .u8 (x3 : Int), Value.int .u8 (x4 : Int), Value.int .u8 (dk : Int), Value.int .u8 (lt : Int), Value.bool pt] 25)) := (Kept.refl _ _).alloc _
  have HY := Lib.hid hb0
  have HK0 := Lib.hid hk0
  clear hb0 hk0
  generalize (w.alloc (Obj.cells #[Value.int .u8 (x0 : Int), Value.int .u8 (x1 : Int), Value.int .u8 (x2 : Int), Value.int .u8 (x3 : Int), Value.int .u8 (x4 : Int), Value.int .u8 (dk : Int), Value.int .u8 (lt : Int), Value.bool pt] 25)) = w1 at HY HK0 ⊢
  generalize w.heap.size = Y at HY ⊢
  refine (qrAscii_c s HS.out kd hkd w1).mono ?_
  rintro e w2 ⟨⟨t, rfl, ht0, ht60, htp⟩, hk2⟩
  have HK2 := Lib.hid (HK0.out.trans0 hk2)
  have HY2 := Lib.hid (hk2.blk HY.out (by simp))
  obtain ⟨A, hA⟩ : ∃ A, a % 301 = A := ⟨_, rfl⟩
  obtain ⟨B, hB⟩ : ∃ B, b % 301 = B := ⟨_, rfl⟩
  obtain ⟨q, hq⟩ : ∃ q, qz % 20 = q := ⟨_, rfl⟩
  obtain ⟨l, hl⟩ : ∃ l, lv % 4 = l := ⟨_, rfl⟩
  have HA : Hid (A ≤ 300 ∧ B ≤ 300 ∧ q < 20 ∧ l < 4) := Lib.hid (by omega)
  have hAi : (a : Int) % 301 = (A : Int) := by omega
  have hBi : (b : Int) % 301 = (B : Int) := by omega
  have hqi : (qz : Int) % 20 = (q : Int) := by omega
  have hA9 : (A : Int) ≤ 300 := by omega
  have hB9 : (B : Int) ≤ 300 := by omega
  have hq9 : (q : Int) < 20 := by omega
  have HLE := Lib.hid hl
  clear hk2 hA hB hq hl
  go_wp2_with fail
  refine (qrLevel_c lv hlv w2).mono ?_
  rintro e wx ⟨rfl, rfl⟩
  rw [HLE.out]
  go_wp2_with fail
  obtain ⟨k, hk7, hK, hlo⟩ := least_version l (segBits t).length HA.out.2.2.2 (segBits_few t ht60)
  obtain ⟨q1, hq1⟩ : ∃ q1, 1 + q = q1 := ⟨_, rfl⟩
  have hq1i : (1 : Int) + (q : Int) = (q1 : Int) := by omega
  have HQ1 := Lib.hid hq1
  rw [hq1i]
  obtain ⟨W, H, m, lp, tp, sh⟩ : ∃ W H m lp tp, Shape (21 + 4 * k) q1 A B W H m lp tp := ⟨_, _, _, _, _, rfl, rfl, rfl, rfl, rfl⟩
  have hsf := sh.fits (by omega)
  have hWH : 21 ≤ W ∧ W ≤ 300 ∧ 21 ≤ H ∧ H ≤ 300 := by have := sh.sw; have := sh.sh; have := HA.out; omega
  have hm13 : m ≤ 13 := by
    have h1 : m ≤ W / (21 + 4 * k + 2 * q1) := by rw [sh.sm]; exact Nat.min_le_left _ _
    have h2 : W / (21 + 4 * k + 2 * q1) < 14 := Nat.div_lt_of_lt_mul (by omega)
    omega
  have HSF := Lib.hid hsf
  have HWHH := Lib.hid hWH
  have HM13 := Lib.hid hm13
  refine (qrWrite_c t ht0 (by omega) k l q1 A B hk7 HA.out.2.2.2 (by have := HA.out; have := HQ1.out; omega) HA.out.1 HA.out.2.1 hK hlo (fun bs hb x _ => hall_all k l hk7 bs hb x) W H m lp tp sh).mono ?_
  rintro e w3 ⟨⟨R, x, M, bits, rfl, hdr, hbr, _⟩, hk3⟩
  obtain ⟨mo, ee, T, nB, short, ls, ec, RB, xs, raw, dl, D, L, S⟩ := sym_of hdr ht0 ht60 hk7 HA.out.2.2.2 hK
  have HSY := Lib.hid S
  have HMD : Hid ((∀ i, i < 8 → M i i = diag i) ∧ M (21 + 4 * k - 1) 6 = 1) := Lib.hid ⟨fun i hi => by rw [hdr.mat]; exact mat_diag k l x hk7 bits i hi, by rw [hdr.mat]; have := (mat_foot k l x hk7 bits).2; rw [show 21 + 4 * k - 1 = 20 + 4 * k from by omega]; exact this⟩
  have HBR := Lib.hid hbr
  have HK3 := Lib.hid (HK2.out.trans0 hk3)
  have HY3 := Lib.hid (hk3.blk HY2.out (by simp))
  have hy := HY3.out
  have y0 := hy.at (i := 0) rfl
  have y1 := hy.at (i := 1) rfl
  have y2 := hy.at (i := 2) rfl
  have y3 := hy.at (i := 3) rfl
  have y4 := hy.at (i := 4) rfl
  have y5 := hy.at (i := 5) rfl
  have y6 := hy.at (i := 6) rfl
  have y7 := hy.at (i := 7) rfl
  clear hk3 hdr hbr S hsf hWH hm13 sh hq1 hq1i hK hlo hAi hBi hqi hy
  go_wp2_with fail
  refine (even_c HBR.out HWHH.out.2.2.1 HWHH.out.2.2.2 HWHH.out.1 HWHH.out.2.1).mono ?_
  rintro e wx ⟨rfl, rfl⟩
  go_wp2_with fail
  refine (tones_c _ _ _ _ _ dk lt (.bool pt) hdk hlt w3).mono ?_
  rintro e w4 ⟨rfl, hk4⟩
  obtain ⟨d2, hd2⟩ : ∃ d, dk % ((128 + lt % 128) / 3 + 1) = d := ⟨_, rfl⟩
  obtain ⟨l2, hl2⟩ : ∃ d, 128 + lt % 128 = d := ⟨_, rfl⟩
  rw [hl2] at hd2 ⊢
  rw [hd2]
  have HDL : Hid (d2 ≤ l2 / 3 ∧ 128 ≤ l2 ∧ l2 < 256 ∧ d2 < 256) := Lib.hid (by
    have h1 := Nat.mod_lt dk (show 0 < l2 / 3 + 1 by omega)
    rw [hd2] at h1
    omega)
  have HK4 := Lib.hid (HK3.out.trans0 hk4)
  have HB4 := Lib.hid (HBR.out.kept hk4 (by simp))
  have HY4 := Lib.hid (hk4.blk HY3.out (by simp))
  clear hk4 y0 y1 y2 y3 y4 y5 y6 y7 hd2 hl2
  have y7 := HY4.out.at (i := 7) rfl
  go_wp2_with fail
  refine (told_c HB4.out HWHH.out.2.2.1 HWHH.out.2.2.2 HWHH.out.1 HWHH.out.2.1 d2 HDL.out.2.2.2 pt).mono ?_
  rintro e wx ⟨⟨r, rfl, hr⟩, rfl⟩
  have HRR := Lib.hid hr
  clear hr
  cases r with
  | false =>
    go_wp2_with fail
    go_ret
    exact ⟨rfl, HK4.out⟩
  | true =>
    have htold := HRR.out rfl
    have HTO := Lib.hid htold
    clear htold HRR
    unfold u8c
    go_wp2_with fail
    refine (grays_c HB4.out HWHH.out.2.2.1 HWHH.out.2.2.2 HWHH.out.1 HWHH.out.2.1 d2 l2 HDL.out.2.2.2 HDL.out.2.2.1).mono ?_
    rintro e w5 ⟨⟨v, rfl, hgr⟩, hk5⟩
    have HG5 := Lib.hid hgr
    have HK5 := Lib.hid (HK4.out.trans0 hk5)
    have hy5 := hk5.blk HY4.out (by simp)
    have h16 : ∀ w6, Kept [] w5 w6 → Calls Tryz.prog 16 #[.int .i64 (W : Int), .int .i64 (H : Int), v, .bool pt] w6 fun e w' => (∃ G C ws, e = .returned (ptv G) ∧ GM w' G C W H ((W + 31) / 32) ws (pix M (21 + 4 * k) lp tp m W)) ∧ Kept [] w6 w' := by
      intro w6 hk6
      have hg6 := HG5.out.keeps0 hk6
      rcases HTO.out with ⟨rfl, bd, hbd, hlt5⟩ | ⟨rfl, hw40, hh40, rfl⟩
      · refine (blackGlobal_c v _ W H d2 l2 _ hg6 HWHH.out.1 HWHH.out.2.1 HWHH.out.2.2.1 HWHH.out.2.2.2 HDL.out.2.1 HDL.out.2.2.1 HDL.out.1 (fun y hy => by
          cases hc : picUp M (21 + 4 * k) lp tp m (21 + 4 * k) 0 y (W / 5) with
          | false => rfl
          | true => have := hlt5 y (W / 5) hy (by have := HWHH.out; omega) hc; omega)).mono ?_
        rintro e w7 ⟨⟨G, C, ws, rfl, hg, _, _⟩, hk⟩
        exact ⟨⟨G, C, ws, rfl, hg⟩, hk⟩
      · refine (blackHybrid_c v _ W H l2 _ hg6 hw40 HWHH.out.2.1 hh40 HWHH.out.2.2.2 HDL.out.2.1 HDL.out.2.2.1).mono ?_
        rintro e w7 ⟨⟨G, C, ws, rfl, hg, _, _⟩, hk⟩
        exact ⟨⟨G, C, ws, rfl, hg⟩, hk⟩
    have HPU := Lib.hid (qrPure_c h16 HSF.out.1 HM13.out HSF.out.2.1 HSF.out.2.2.1 HWHH.out.2.1 HWHH.out.2.2.2 HMD.out.1 HMD.out.2 HSY.out)
    clear hk5 hgr y7 h16
    have y7 := hy5.at (i := 7) rfl
    clear hy5
    go_wp2_with fail
    refine HPU.out.mono ?_
    rintro e w6 ⟨⟨u, rfl, hv⟩, hk6⟩
    rw [textOf_chars] at hv
    obtain ⟨p1, n1, c1, p2, n2, c2, z2, v1, v2, v3, v4, rfl⟩ := hv
    have HK6 := Lib.hid (HK5.out.trans0 hk6)
    clear hk6 HPU y7
    go_wp2_with fail
    go_ret
    exact ⟨rfl, HK6.out.alloc _⟩
set_option maxRecDepth 1000000 in
theorem roadLong_c (s : ByteArray) (v1 v2 v3 v4 v5 : Value) (x0 x1 x2 x3 x4 dk lt : Nat) (pt : Bool) (w : World) (hs : ¬ s.size ≤ 2147483647) :
    Calls Tryz.prog 3 #[.string s, v1, v2, v3, v4, v5, .agg #[.int .u8 (x0 : Int), .int .u8 (x1 : Int), .int .u8 (x2 : Int), .int .u8 (x3 : Int), .int .u8 (x4 : Int), .int .u8 (dk : Int), .int .u8 (lt : Int), .bool pt]] w fun e w' => e = .returned (.bool true) ∧ Kept [] w w' := by
  have hsn : (2147483647 : Int) < (s.size : Int) := by omega
  clear hs
  go_enter Tryz.func3, Tryz.ntmps3
  go_wp2_with fail
  go_ret
  exact ⟨rfl, (Kept.refl _ _).alloc _⟩
end

section
open Go.Joins Go.ChangeShapes Go.WideShapes Go.Deep
set_option maxRecDepth 1000000 in
theorem cells25 : Tryz.prog.cellsOf 25 = 8 := by kernel_rfl
set_option maxRecDepth 1000000 in
theorem cells23 : Tryz.prog.cellsOf 23 = 4 := by kernel_rfl
set_option maxRecDepth 1000000 in
theorem cells5 : Tryz.prog.cellsOf 5 = 1 := by kernel_rfl
set_option maxRecDepth 1000000 in
theorem cells4 : Tryz.prog.cellsOf 4 = 1 := by kernel_rfl
section
variable {H : Type} {enc : TypeId × Value → H} {w : World} {base : Nat} {spare : Nat → Bool} {held : Bool}
set_option maxRecDepth 1000000 in
theorem open_view {r : Reach} {b0 : Nat} {v : Value} {d : DataW H} {p : List MemPlace} (hv : Value.okWide Tryz.prog w r b0 25 v) (h : DataW.Trod enc Tryz.prog w base spare held 25 v d p) :
    ∃ (x0 x1 x2 x3 x4 dk lt : Int) (pt : Bool), v = .agg #[.int .u8 x0, .int .u8 x1, .int .u8 x2, .int .u8 x3, .int .u8 x4, .int .u8 dk, .int .u8 lt, .bool pt] ∧
      d = .agg [.lit (.int .u8 x0), .agg [.lit (.int .u8 x1), .lit (.int .u8 x2), .lit (.int .u8 x3), .lit (.int .u8 x4)], .lit (.int .u8 dk), .lit (.int .u8 lt), .lit (.bool pt)] ∧ p = [] ∧
      (Lit.int .u8 x0).wf = true ∧ (Lit.int .u8 x1).wf = true ∧ (Lit.int .u8 x2).wf = true ∧ (Lit.int .u8 x3).wf = true ∧ (Lit.int .u8 x4).wf = true ∧ (Lit.int .u8 dk).wf = true ∧ (Lit.int .u8 lt).wf = true := by
  obtain ⟨cs, rfl, hsz⟩ := okWide_struct Tryz.underlying25 hv
  obtain ⟨l⟩ := cs
  match l, hsz.trans cells25 with
  | [c0, c1, c2, c3, c4, c5, c6, c7], _ =>
    obtain ⟨fuel, hf⟩ := h
    obtain ⟨xs, n, _, hx, _, hlen, hg⟩ := DataW.trod_struct Tryz.underlying25 hf
    match xs, hlen with
    | [y0, y1, y2, y3, y4], _ =>
      have g0 : DataW.trod enc Tryz.prog w base spare held n 5 (([c0, c1, c2, c3, c4, c5, c6, c7].drop 0).take (Tryz.prog.cellsOf 5)) = some y0 := hg 0 _ rfl
      have g1 : DataW.trod enc Tryz.prog w base spare held n 23 (([c0, c1, c2, c3, c4, c5, c6, c7].drop 1).take (Tryz.prog.cellsOf 23)) = some y1 := hg 1 _ rfl
      have g2 : DataW.trod enc Tryz.prog w base spare held n 5 (([c0, c1, c2, c3, c4, c5, c6, c7].drop 5).take (Tryz.prog.cellsOf 5)) = some y2 := hg 2 _ rfl
      have g3 : DataW.trod enc Tryz.prog w base spare held n 5 (([c0, c1, c2, c3, c4, c5, c6, c7].drop 6).take (Tryz.prog.cellsOf 5)) = some y3 := hg 3 _ rfl
      have g4 : DataW.trod enc Tryz.prog w base spare held n 4 (([c0, c1, c2, c3, c4, c5, c6, c7].drop 7).take (Tryz.prog.cellsOf 4)) = some y4 := hg 4 _ rfl
      rw [cells5] at g0 g2 g3
      rw [cells23] at g1
      rw [cells4] at g4
      obtain ⟨k0, e0, r0, w0⟩ := DataW.trod_int Tryz.underlying5 g0
      obtain ⟨k2, e2, r2, w2⟩ := DataW.trod_int Tryz.underlying5 g2
      obtain ⟨k3, e3, r3, w3⟩ := DataW.trod_int Tryz.underlying5 g3
      obtain ⟨k4, e4, r4⟩ := DataW.trod_bool Tryz.underlying4 g4
      obtain ⟨zs, m, _, hz, _, hzl, hzg⟩ := DataW.trod_array Tryz.underlying23 g1
      match zs, hzl with
      | [z0, z1, z2, z3], _ =>
        have q0 : DataW.trod enc Tryz.prog w base spare held m 5 ((([c1, c2, c3, c4]).drop (0 * Tryz.prog.cellsOf 5)).take (Tryz.prog.cellsOf 5)) = some z0 := hzg 0 (by decide)
        have q1 : DataW.trod enc Tryz.prog w base spare held m 5 ((([c1, c2, c3, c4]).drop (1 * Tryz.prog.cellsOf 5)).take (Tryz.prog.cellsOf 5)) = some z1 := hzg 1 (by decide)
        have q2 : DataW.trod enc Tryz.prog w base spare held m 5 ((([c1, c2, c3, c4]).drop (2 * Tryz.prog.cellsOf 5)).take (Tryz.prog.cellsOf 5)) = some z2 := hzg 2 (by decide)
        have q3 : DataW.trod enc Tryz.prog w base spare held m 5 ((([c1, c2, c3, c4]).drop (3 * Tryz.prog.cellsOf 5)).take (Tryz.prog.cellsOf 5)) = some z3 := hzg 3 (by decide)
        rw [cells5] at q0 q1 q2 q3
        obtain ⟨j0, a0, s0, v0⟩ := DataW.trod_int Tryz.underlying5 q0
        obtain ⟨j1, a1, s1, v1⟩ := DataW.trod_int Tryz.underlying5 q1
        obtain ⟨j2, a2, s2, v2⟩ := DataW.trod_int Tryz.underlying5 q2
        obtain ⟨j3, a3, s3, v3⟩ := DataW.trod_int Tryz.underlying5 q3
        simp only [Value.cells, List.drop_zero, List.drop_succ_cons, List.take_succ_cons, List.take_zero, List.cons.injEq, and_true] at e0 e2 e3 e4 a0 a1 a2 a3
        simp at e0 e2 e3 e4 a0 a1 a2 a3
        subst e0 e2 e3 e4 a0 a1 a2 a3
        subst r0 r2 r3 r4 hz s0 s1 s2 s3
        simp at hx
        exact ⟨k0, j0, j1, j2, j3, k2, k3, k4, rfl, hx.1, hx.2, w0, v0, v1, v2, v3, w2, w3⟩
theorem trod_bool_mk (m : Nat) (b : Bool) : DataW.trod enc Tryz.prog w base spare held (m + 1) 4 [.bool b] = some (.lit (.bool b), []) := by
  simp [DataW.trod, Tryz.underlying4]
set_option maxRecDepth 1000000 in
theorem shut_borders {x1 x2 x3 x4 : Int} (h1 : (Lit.int .u8 x1).wf = true) (h2 : (Lit.int .u8 x2).wf = true) (h3 : (Lit.int .u8 x3).wf = true) (h4 : (Lit.int .u8 x4).wf = true) :
    DataW.trod enc Tryz.prog w base spare held 2 23 [.int .u8 x1, .int .u8 x2, .int .u8 x3, .int .u8 x4] = some (.agg [.lit (.int .u8 x1), .lit (.int .u8 x2), .lit (.int .u8 x3), .lit (.int .u8 x4)], []) := by
  have q1 := trod_int_mk (enc := enc) (w := w) (base := base) (spare := spare) (held := held) 0 Tryz.underlying5 h1
  have q2 := trod_int_mk (enc := enc) (w := w) (base := base) (spare := spare) (held := held) 0 Tryz.underlying5 h2
  have q3 := trod_int_mk (enc := enc) (w := w) (base := base) (spare := spare) (held := held) 0 Tryz.underlying5 h3
  have q4 := trod_int_mk (enc := enc) (w := w) (base := base) (spare := spare) (held := held) 0 Tryz.underlying5 h4
  unfold DataW.trod
  rw [Tryz.underlying23]
  simp [cells23, cells5, q1, q2, q3, q4, List.range, List.range.loop]
set_option maxRecDepth 1000000 in
theorem shut_view {x0 x1 x2 x3 x4 dk lt : Int} {pt : Bool} (h0 : (Lit.int .u8 x0).wf = true) (h1 : (Lit.int .u8 x1).wf = true) (h2 : (Lit.int .u8 x2).wf = true) (h3 : (Lit.int .u8 x3).wf = true) (h4 : (Lit.int .u8 x4).wf = true) (h5 : (Lit.int .u8 dk).wf = true) (h6 : (Lit.int .u8 lt).wf = true) :
    DataW.Trod enc Tryz.prog w base spare held 25 (.agg #[.int .u8 x0, .int .u8 x1, .int .u8 x2, .int .u8 x3, .int .u8 x4, .int .u8 dk, .int .u8 lt, .bool pt])
      (.agg [.lit (.int .u8 x0), .agg [.lit (.int .u8 x1), .lit (.int .u8 x2), .lit (.int .u8 x3), .lit (.int .u8 x4)], .lit (.int .u8 dk), .lit (.int .u8 lt), .lit (.bool pt)]) [] := by
  have q0 := trod_int_mk (enc := enc) (w := w) (base := base) (spare := spare) (held := held) 1 Tryz.underlying5 h0
  have q5 := trod_int_mk (enc := enc) (w := w) (base := base) (spare := spare) (held := held) 1 Tryz.underlying5 h5
  have q6 := trod_int_mk (enc := enc) (w := w) (base := base) (spare := spare) (held := held) 1 Tryz.underlying5 h6
  have q7 := trod_bool_mk (enc := enc) (w := w) (base := base) (spare := spare) (held := held) 1 pt
  have qb := shut_borders (enc := enc) (w := w) (base := base) (spare := spare) (held := held) h1 h2 h3 h4
  have := trod_struct_mk (enc := enc) (w := w) (base := base) (spare := spare) (held := held) (n := 2) (cs := [.int .u8 x0, .int .u8 x1, .int .u8 x2, .int .u8 x3, .int .u8 x4, .int .u8 dk, .int .u8 lt, .bool pt])
    (xs := [(.lit (.int .u8 x0), []), (.agg [.lit (.int .u8 x1), .lit (.int .u8 x2), .lit (.int .u8 x3), .lit (.int .u8 x4)], []), (.lit (.int .u8 dk), []), (.lit (.int .u8 lt), []), (.lit (.bool pt), [])]) Tryz.underlying25 (by simp [cells25]) (by simp [cells5, cells23, cells4, q0, q5, q6, q7, qb])
  exact ⟨3, by simpa [Value.cells] using this⟩
end
end

section
open Go.ChangeShapes Go.WideShapes Go.ChangeAt Go.WideMaps Go.WideElems
theorem own : ownKnob Tryz.prog.godebug = none := by kernel_rfl
theorem keptBut_of {W W' : World} (h : Kept [] W W') : W.keptBut W' (fun _ => False) := by
  refine ⟨h.os, h.output, fun i hi => ?_⟩
  have e := h.block i hi (by simp)
  rw [e]
  cases W.heap[i]? with
  | none => rfl
  | some o => cases o <;> first | exact ⟨rfl, rfl, rfl, fun _ _ => rfl⟩ | exact .inr ⟨rfl, rfl⟩ | rfl
theorem road_all (s : ByteArray) (kd lv qz a b x0 x1 x2 x3 x4 dk lt : Int) (pt : Bool) (h1 : (Lit.int .u8 kd).wf = true) (h2 : (Lit.int .u8 lv).wf = true) (h3 : (Lit.int .u8 qz).wf = true) (h4 : (Lit.int .u16 a).wf = true) (h5 : (Lit.int .u16 b).wf = true)
    (k0 : (Lit.int .u8 x0).wf = true) (k1 : (Lit.int .u8 x1).wf = true) (k2 : (Lit.int .u8 x2).wf = true) (k3 : (Lit.int .u8 x3).wf = true) (k4 : (Lit.int .u8 x4).wf = true) (k5 : (Lit.int .u8 dk).wf = true) (k6 : (Lit.int .u8 lt).wf = true) (w : World) :
    Calls Tryz.prog 3 #[.string s, .int .u8 kd, .int .u8 lv, .int .u8 qz, .int .u16 a, .int .u16 b, .agg #[.int .u8 x0, .int .u8 x1, .int .u8 x2, .int .u8 x3, .int .u8 x4, .int .u8 dk, .int .u8 lt, .bool pt]] w fun e w' => e = .returned (.bool true) ∧ Kept [] w w' := by
  have u8 : ∀ {x : Int}, (Lit.int .u8 x).wf = true → ∃ n : Nat, n < 256 ∧ x = (n : Int) := fun {x} h => by
    have e1 : IntKind.u8.min = 0 := by decide
    have e2 : IntKind.u8.max = 255 := by decide
    simp [Lit.wf] at h
    exact ⟨x.toNat, by omega, by omega⟩
  have u16 : ∀ {x : Int}, (Lit.int .u16 x).wf = true → ∃ n : Nat, n < 65536 ∧ x = (n : Int) := fun {x} h => by
    have e1 : IntKind.u16.min = 0 := by decide
    have e2 : IntKind.u16.max = 65535 := by decide
    simp [Lit.wf] at h
    exact ⟨x.toNat, by omega, by omega⟩
  obtain ⟨kd, a1, rfl⟩ := u8 h1
  obtain ⟨lv, a2, rfl⟩ := u8 h2
  obtain ⟨qz, a3, rfl⟩ := u8 h3
  obtain ⟨a, a4, rfl⟩ := u16 h4
  obtain ⟨b, a5, rfl⟩ := u16 h5
  obtain ⟨x0, _, rfl⟩ := u8 k0
  obtain ⟨x1, _, rfl⟩ := u8 k1
  obtain ⟨x2, _, rfl⟩ := u8 k2
  obtain ⟨x3, _, rfl⟩ := u8 k3
  obtain ⟨x4, _, rfl⟩ := u8 k4
  obtain ⟨dk, a6, rfl⟩ := u8 k5
  obtain ⟨lt, a7, rfl⟩ := u8 k6
  by_cases hs : s.size ≤ 2147483647
  · exact road_c s kd lv qz a b dk lt x0 x1 x2 x3 x4 pt a1 a2 a3 a4 a5 a6 a7 w hs
  · exact roadLong_c s _ _ _ _ _ x0 x1 x2 x3 x4 dk lt pt w hs
end

section
open Go.ChangeMaps Go.ChangeShapes Go.WideShapes Go.ChangeAt Go.WideMaps Go.WideElems
set_option maxRecDepth 1000000 in
theorem wit_met (os : Os) (args : Array Value) : laidMetH Tryz.prog Rows.fnRQRoadRow.laid ((World.laidAll Tryz.prog os Rows.fnRQRoadRow.laid).forCall (fun _ _ => 0) ⟨#[], args, []⟩).memory := by
  rw [MakeChecks.laidMetH_plain _ _ _ (by kernel_rfl)]
  exact laidMet_laidAll _ (by kernel_rfl) (by kernel_rfl)
/-- The arguments of the witness. -/
def witArgs : Array Value := #[.string ⟨#[]⟩, .int .u8 0, .int .u8 0, .int .u8 0, .int .u16 0, .int .u16 0, .agg #[.int .u8 0, .int .u8 0, .int .u8 0, .int .u8 0, .int .u8 0, .int .u8 0, .int .u8 0, .bool false]]
set_option maxRecDepth 1000000 in
theorem wit_shaped (os : Os) : ((World.laidAll Tryz.prog os Rows.fnRQRoadRow.laid).forCall (fun _ _ => 0) ⟨#[], witArgs, []⟩).Shaped Tryz.prog :=
  World.shaped_of_ZipB (by kernel_rfl) (by kernel_rfl)
set_option maxRecDepth 1000000 in
theorem wit_ok (os : Os) : Input.okWideB Tryz.prog ((World.laidAll Tryz.prog os Rows.fnRQRoadRow.laid).forCall (fun _ _ => 0) ⟨#[], witArgs, []⟩) 3 ⟨#[], witArgs, []⟩ = true := by kernel_rfl
set_option maxRecDepth 1000000 in
theorem wit_pre (os : Os) (H : Type) (enc : TypeId × Value → H) : Rows.fnRQRoadSpec.preB enc Tryz.prog Tryz.f3 [] false ((World.laidAll Tryz.prog os Rows.fnRQRoadRow.laid).forCall (fun _ _ => 0) ⟨#[], witArgs, []⟩).memory witArgs 8 = true := by kernel_rfl
set_option maxRecDepth 1000000 in
theorem wit_sized (os : Os) (H : Type) (enc : TypeId × Value → H) : Rows.fnRQRoadSpec.sizedB enc Tryz.prog Tryz.f3 false ((World.laidAll Tryz.prog os Rows.fnRQRoadRow.laid).forCall (fun _ _ => 0) ⟨#[], witArgs, []⟩).memory witArgs 8 = true := by kernel_rfl
set_option maxRecDepth 1000000 in
theorem lifted (os : Os) (started : os.Started) (H : Type) (enc : TypeId × Value → H) :
    ReturnsInHanded {} Tryz.checked os 3 .any (fun w args => (Rows.fnRQRoadSpec.pre enc Tryz.prog Tryz.f3 [] false w args ∧ laidMetH Tryz.prog Rows.fnRQRoadRow.laid w) ∧ sizedMet enc Tryz.prog Tryz.f3 (OpenSpec.ofChange Rows.fnRQRoadSpec) false w args)
      (Rows.fnRQRoadSpec.post enc Tryz.prog Tryz.f3 false true false false) := by
  refine returnsInHanded_of_change_and (C := Tryz.checked) (X := fun w _ => laidMetH Tryz.prog Rows.fnRQRoadRow.laid w) (fun _ _ _ hh h => h.of_heap hh) own started (by kernel_rfl) Tryz.func3
    (ChangeSpec.witness_shaped (enc := enc) (C := Tryz.checked) (os := os) (X := fun w _ => laidMetH Tryz.prog Rows.fnRQRoadRow.laid w) false (World.laidAll Tryz.prog os Rows.fnRQRoadRow.laid) witArgs 8 (World.laidAll_os _ _ _) (wit_shaped os) (wit_ok os) (wit_pre os H enc) (wit_sized os H enc) (wit_met os _)) ?_
  intro W base args ds gs before hval0 hW _ _ hL _
  have hval : ∀ (j : Nat) t v, Tryz.f3.params[j]? = some t → args[j]? = some v → Value.okWide Tryz.prog W .any base t v := hval0
  have hW' := hW
  obtain ⟨p, q, hA0, hV, rfl, hfz, hnd⟩ := hW
  have hA : DataW.TrodAll enc Tryz.prog W 0 (fun _ => true) true Tryz.f3.params.toList args.toList ds p := hA0
  rw [Tryz.params3] at hA hval
  obtain ⟨v0, vs0, d0, ds0, p0, q0, hargs, rfl, rfl, h0, r0⟩ := trodAll_cons hA
  obtain ⟨v1, vs1, d1, ds1, p1, q1, rfl, rfl, rfl, h1, r1⟩ := trodAll_cons r0
  obtain ⟨v2, vs2, d2, ds2, p2, q2, rfl, rfl, rfl, h2, r2⟩ := trodAll_cons r1
  obtain ⟨v3, vs3, d3, ds3, p3, q3, rfl, rfl, rfl, h3, r3⟩ := trodAll_cons r2
  obtain ⟨v4, vs4, d4, ds4, p4, q4, rfl, rfl, rfl, h4, r4⟩ := trodAll_cons r3
  obtain ⟨v5, vs5, d5, ds5, p5, q5, rfl, rfl, rfl, h5, r5⟩ := trodAll_cons r4
  obtain ⟨v6, vs6, d6, ds6, p6, q6, rfl, rfl, rfl, h6, r6⟩ := trodAll_cons r5
  obtain ⟨rfl, rfl, rfl⟩ := trodAll_nil r6
  obtain rfl : args = #[v0, v1, v2, v3, v4, v5, v6] := by cases args; simp_all
  obtain ⟨rfl, rfl⟩ := trodVars_none hV
  obtain ⟨s, rfl, rfl, rfl, w0⟩ := open_string Tryz.underlying9 (hval 0 9 v0 rfl rfl) h0
  obtain ⟨kd, rfl, rfl, rfl, w1⟩ := open_int Tryz.underlying5 (hval 1 5 v1 rfl rfl) h1
  obtain ⟨lv, rfl, rfl, rfl, w2⟩ := open_int Tryz.underlying5 (hval 2 5 v2 rfl rfl) h2
  obtain ⟨qz, rfl, rfl, rfl, w3⟩ := open_int Tryz.underlying5 (hval 3 5 v3 rfl rfl) h3
  obtain ⟨a, rfl, rfl, rfl, w4⟩ := open_int Tryz.underlying22 (hval 4 22 v4 rfl rfl) h4
  obtain ⟨b, rfl, rfl, rfl, w5⟩ := open_int Tryz.underlying22 (hval 5 22 v5 rfl rfl) h5
  obtain ⟨x0, x1, x2, x3, x4, dk, lt, pt, rfl, rfl, rfl, k0, k1, k2, k3, k4, k5, k6⟩ := open_view (hval 6 25 v6 rfl rfl) h6
  simp only [List.append_nil] at hW'
  refine (road_all s kd lv qz a b x0 x1 x2 x3 x4 dk lt pt w1 w2 w3 w4 w5 k0 k1 k2 k3 k4 k5 k6 W).mono fun e W' ⟨he, hk⟩ => ?_
  subst he
  have hargs : ∀ sp : Nat → Bool, DataW.TrodAll enc Tryz.prog W' 0 sp true Tryz.f3.params.toList [.string s, .int .u8 kd, .int .u8 lv, .int .u8 qz, .int .u16 a, .int .u16 b, .agg #[.int .u8 x0, .int .u8 x1, .int .u8 x2, .int .u8 x3, .int .u8 x4, .int .u8 dk, .int .u8 lt, .bool pt]] _ [] := fun sp => by
    rw [Tryz.params3]
    exact (trodAll_cons_mk (shut_string Tryz.underlying9 w0) (trodAll_cons_mk (shut_int Tryz.underlying5 w1) (trodAll_cons_mk (shut_int Tryz.underlying5 w2) (trodAll_cons_mk (shut_int Tryz.underlying5 w3) (trodAll_cons_mk (shut_int Tryz.underlying22 w4) (trodAll_cons_mk (shut_int Tryz.underlying22 w5) (trodAll_cons_mk (shut_view k0 k1 k2 k3 k4 k5 k6) trodAll_mk0)))))))
  have hkb := keptBut_of hk
  refine ⟨_, rfl, ?_⟩
  refine ⟨_, _, [], [], [], [], hW', ?_, ?_, ?_, ?_, ?_⟩
  · exact trodAll_mk1 (shut_bool Tryz.underlying4 _)
  · exact hargs _
  · rfl
  · exact World.keptBut_mono (fun _ f => f.elim) hkb
  · intro _
    refine ⟨ok_one (by kernel_rfl) rfl (okWide_bool_mk Tryz.underlying4 _), _, [], ([] ++ []) ++ [], ⟨[] ++ [], [], trodAll_append (hargs _) (trodAll_mk1 (shut_bool Tryz.underlying4 _)), rfl, rfl, ?_, ?_⟩, ?_⟩
    · intro b off hp
      simp at hp
    · intro _
      simp
    · intro p hp _
      simp at hp
end
end Go.Proofs.YtplpafbkalkchaaGreatDoor
