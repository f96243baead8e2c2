/- Walk: what was read is laid out for the law. Walks: a symbol's rows are read. -/
import Derived.Laws.ResultCell
import Derived.Test.YtplpafbkalkchaaGreatDoorW44
import Derived.Test.YtplpafbkalkchaaGreatDoorW47
namespace Go.Proofs.YtplpafbkalkchaaGreatDoor
open Go Go.RowKit Go.Proofs
set_option linter.all false

section
/-- What is read, as the law sees it: its text is s. -/
def ViewOf (s : ByteArray) (v : Value) : Prop := ∃ p1 n1 c1 p2 n2 c2 z, ∃ x1 x2 x3 x4 : Int, v = .agg #[.string s, .slice p1 n1 c1, .slice p2 n2 c2, .string z, .int .i64 x1, .int .i64 x2, .int .i64 x3, .int .i64 x4]
set_option maxRecDepth 100000 in
set_option maxHeartbeats 8000000 in
theorem decoded_c {w : World} {Z A T base : Nat} {s z : ByteArray} {sv : Value} {xs : List Nat}
    (hZ : Blk w Z [slv A T T, .int .i64 (8 * (T : Int)), .string s, sv, .string z, .int .i64 0, .int .i64 0, .nilIface, .int .i64 (-1), .int .i64 (-1), .int .i64 1] 235) (hA : Blk w A (xs.map u8c) 5) (hT : xs.length = T) (hT9 : T ≤ 300)
    (hsv : sv = .slice none 0 0 ∨ ∃ (R n : Nat) (us : List Nat), (n = us.length ∧ n ≤ 100) ∧ GR w base 35 sv [slv R n n] ∧ Blk w R (us.map u8c) 5 ∧ base ≤ R) :
    Calls Tryz.prog 33 #[ptv Z, .nilIface] w fun e w' => (∃ v, e = .returned (.tuple #[v, .bool true]) ∧ ViewOf s v) ∧ Kept [] w w' := by
  obtain ⟨m, p0, c0, hsv2, hm1, hseg⟩ : ∃ m p0 c0, sv = .slice p0 m c0 ∧ m ≤ 1 ∧ (0 < m → ∃ g R n rest, ∃ us : List Nat, p0 = some ⟨g, 0, none⟩ ∧ Blk w g (slv R n n :: rest) 35 ∧ n = us.length ∧ n ≤ 100 ∧ Blk w R (us.map u8c) 5) := by
    rcases hsv with h | ⟨R, n, us, hn, hg, hb, _⟩
    · exact ⟨0, none, 0, h, by omega, fun h => by omega⟩
    · obtain ⟨g, rest, hv, _, hbl, _⟩ := hg.open (by simp)
      exact ⟨1, _, _, hv, by omega, fun _ => ⟨g, R, n, rest, us, rfl, hbl, hn.1, hn.2, hb⟩⟩
  subst hsv2
  have HZ := Lib.hid hZ
  have HA := Lib.hid hA
  have HT := Lib.hid hT
  have HSEG := Lib.hid hseg
  have mi : (m : Int) ≤ 1 := by omega
  clear hZ hA hT hseg hsv
  have hb0 := Blk.new w [Value.string ⟨#[]⟩, .slice none 0 0, .slice none 0 0, .string ⟨#[]⟩, .int .i64 0, .int .i64 0, .int .i64 0, .int .i64 0] 40
  go_enter Tryz.func33, Tryz.ntmps33
  go_wp2_with fail
  have hk0 : Kept [] w (w.alloc (Obj.cells #[Value.string { data := #[] }, Value.slice none 0 0, Value.slice none 0 0, Value.string { data := #[] }, Value.int .i64 0, Value.int .i64 0, Value.int .i64 0, Value.int .i64 0] 40)) := (Kept.refl _ _).alloc _
  have HY := Lib.hid hb0
  have HK0 := Lib.hid hk0
  obtain ⟨Y, hY⟩ : ∃ Y, w.heap.size = Y := ⟨_, rfl⟩
  have HWY := Lib.hid hY
  rw [hY] at HY ⊢
  clear hb0 hk0 hY
  generalize (w.alloc (Obj.cells #[Value.string { data := #[] }, Value.slice none 0 0, Value.slice none 0 0, Value.string { data := #[] }, Value.int .i64 0, Value.int .i64 0, Value.int .i64 0, Value.int .i64 0] 40)) = w1 at HY HK0 ⊢
  refine (resSegments_c ((HK0.out.blk HZ.out (by simp)).at (i := 3) rfl)).mono ?_
  rintro e wx ⟨rfl, rfl⟩
  go_wp2_with fail
  go_loopw [6, 15] (fun s6 s15 wz => ∃ (k : Nat) (v : Value) (ys : List Value), v = s6 ∧ k ≤ m ∧ s15 = num k ∧ Hid (GR wz w1.heap.size 35 v ys ∧ ys.length ≤ k ∧ Kept [] w1 wz)) (fun _ i _ => (m - intOf i).toNat)
  case atStart => exact ⟨0, _, [], rfl, by omega, rfl, Lib.hid ⟨GR.nil _ _ _, by simp, Kept.refl _ _⟩⟩
  case round =>
    obtain ⟨k, v, ys, rfl, hk, rfl, hst⟩ := hrel
    have HGV := Lib.hid hst.out.1
    have HYL := Lib.hid hst.out.2.1
    have HKZ := Lib.hid hst.out.2.2
    have hki : (k : Int) ≤ m := by omega
    clear hst
    by_cases hlt : k < m
    · obtain ⟨g, R, n, rest, us, rfl, hg, hnu, hn9, hR⟩ := HSEG.out (by omega)
      have hlti : (k : Int) < m := by omega
      obtain rfl : k = 0 := by omega
      have HKW := Lib.hid (HK0.out.trans0 HKZ.out)
      have gz := HKW.out.blk hg (by simp)
      have g1 := gz.at (i := 0) rfl
      have HRZ := Lib.hid (HKW.out.blk hR (by simp))
      have HNU := Lib.hid hnu
      clear gz hg hR hnu
      go_wp2_with (first
        | (at_builtin; refine app_many rfl _ _ 35 rfl 5 (.int .u8 0) 1 Tryz.underlying35 Ty.info5 rfl (by omega) w1.heap.size (.slice none 0 0) [] (us.map u8c) rfl (GR.nil _ _ _) R 0 n n rfl (by rw [List.length_map]; exact HNU.out.symm) (fun j u hj => by rw [Nat.zero_add]; exact HRZ.out.at hj) (by intro u hu; obtain ⟨z, _, rfl⟩ := List.mem_map.1 hu; rfl) (by simp; omega) HKZ.out.size ?_; intro v5 w5 hg5 hk5; have HG5 := Lib.hid hg5; have hk5b : Kept [] wr w5 := (by simpa [Value.ownBlock] using hk5); have HK5 := Lib.hid (HKZ.out.trans0 hk5b); have HGV5 := Lib.hid (HGV.out.keeps0 hk5b); clear hg5 hk5 hk5b; obtain ⟨p5, n5, c5, rfl⟩ : ∃ p5 n5 c5, v5 = .slice p5 n5 c5 := HG5.out.slice)
        | (at_builtin; refine app_one rfl _ _ 38 rfl 35 (.slice none 0 0) 24 Tryz.underlying38 info35 rfl (by omega) w1.heap.size v (.slice p5 n5 c5) ys rfl (HGV5.out.keeps0 ((Kept.refl _ _).alloc _)) w5.heap.size rfl ((Blk.new w5 [.slice p5 n5 c5] 35).at (i := 0) rfl) rfl (by have := HYL.out; omega) (by rw [World.size_alloc]; have := HK5.out.size; omega) ?_; intro v6 w6 hg6 hk6; have HG6 := Lib.hid hg6; have HK6 : Hid (Kept [] w1 w6) := Lib.hid ((HK5.out.alloc _).trans hk6 (by intro x hx hx2; have := ((HGV5.out.keeps0 ((Kept.refl [] w5).alloc (.cells #[.slice p5 n5 c5] 35))).own x hx).1; omega)); clear hg6 hk6))
      go_roundw
      case rel => exact ⟨1, v6, _, rfl, by omega, rfl, Lib.hid ⟨HG6.out, by have h9 := HYL.out; rw [List.length_append, List.length_singleton]; omega, HK6.out⟩⟩
      case measure => simp [intOf]; omega
    · obtain rfl : m = k := by omega
      obtain ⟨p2, n2, c2, rfl⟩ : ∃ p2 n2 c2, v = .slice p2 n2 c2 := HGV.out.slice
      have HKW := Lib.hid (HK0.out.trans0 HKZ.out)
      have HZZ := Lib.hid (HKW.out.blk HZ.out (by simp))
      have HAZ := Lib.hid (HKW.out.blk HA.out (by simp))
      clear HGV
      go_wp2_with fail
      refine (resText_c (HZZ.out.at (i := 2) rfl)).mono ?_
      rintro e wx ⟨rfl, rfl⟩
      go_wp2_with fail
      refine (resRaw_c (HZZ.out.at (i := 0) rfl)).mono ?_
      rintro e wx ⟨rfl, rfl⟩
      go_wp2_with (first
        | (at_builtin; refine app_many rfl _ _ 35 rfl 5 (.int .u8 0) 1 Tryz.underlying35 Ty.info5 rfl (by omega) w1.heap.size (.slice none 0 0) [] (xs.map u8c) rfl (GR.nil _ _ _) A 0 T T rfl (by rw [List.length_map]; exact HT.out) (fun j u hj => by rw [Nat.zero_add]; exact HAZ.out.at hj) (by intro u hu; obtain ⟨z, _, rfl⟩ := List.mem_map.1 hu; rfl) (by simp; omega) HKZ.out.size ?_; intro v5 w5 hg5 hk5; have HG5 := Lib.hid hg5; have hk5b : Kept [] wr w5 := (by simpa [Value.ownBlock] using hk5); have HK5 := Lib.hid (HKZ.out.trans0 hk5b); have HZ5 := Lib.hid (hk5b.blk HZZ.out (by simp)); clear hg5 hk5 hk5b; obtain ⟨p1, n1, c1, rfl⟩ : ∃ p5 n5 c5, v5 = .slice p5 n5 c5 := HG5.out.slice))
      refine (resLevel_c (HZ5.out.at (i := 4) rfl)).mono ?_
      rintro e wx ⟨rfl, rfl⟩
      go_wp2_with fail
      refine (resErrors_c (HZ5.out.at (i := 5) rfl)).mono ?_
      rintro e wx ⟨rfl, rfl⟩
      go_wp2_with fail
      refine (resSequence_c (HZ5.out.at (i := 9) rfl)).mono ?_
      rintro e wx ⟨rfl, rfl⟩
      go_wp2_with fail
      refine (resParity_c (HZ5.out.at (i := 8) rfl)).mono ?_
      rintro e wx ⟨rfl, rfl⟩
      go_wp2_with fail
      refine (resModifier_c (HZ5.out.at (i := 10) rfl)).mono ?_
      rintro e wx ⟨rfl, rfl⟩
      have hy5 := HK5.out.blk HY.out (by simp)
      have HY5 := Lib.hid hy5
      have y0 := hy5.at (i := 0) rfl
      have y1 := hy5.at (i := 1) rfl
      have y2 := hy5.at (i := 2) rfl
      have y3 := hy5.at (i := 3) rfl
      have y4 := hy5.at (i := 4) rfl
      have y5 := hy5.at (i := 5) rfl
      have y6 := hy5.at (i := 6) rfl
      have y7 := hy5.at (i := 7) rfl
      have f0 := hy5.free 0
      have f1 := hy5.free 1
      have f2 := hy5.free 2
      have f3 := hy5.free 3
      have f4 := hy5.free 4
      have f5 := hy5.free 5
      have f6 := hy5.free 6
      have f7 := hy5.free 7
      clear hy5
      go_wp2_with fail
      have hb8 : Blk ((((((((w5.setCell { block := Y, off := 0 } (Value.string s)).setCell { block := Y, off := 1 } (Value.slice p1 n1 c1)).setCell { block := Y, off := 2 } (Value.slice p2 n2 c2)).setCell { block := Y, off := 3 } (Value.string z)).setCell { block := Y, off := 4 } (Value.int .i64 0)).setCell { block := Y, off := 5 } (Value.int .i64 (-1))).setCell { block := Y, off := 6 } (Value.int .i64 (-1))).setCell { block := Y, off := 7 } (Value.int .i64 1)) Y [Value.string s, Value.slice p1 n1 c1, Value.slice p2 n2 c2, Value.string z, Value.int .i64 0, Value.int .i64 (-1), Value.int .i64 (-1), Value.int .i64 1] 40 := ((((((((HY5.out.set 0 (Value.string s)).set 1 (Value.slice p1 n1 c1)).set 2 (Value.slice p2 n2 c2)).set 3 (Value.string z)).set 4 (Value.int .i64 0)).set 5 (Value.int .i64 (-1))).set 6 (Value.int .i64 (-1))).set 7 (Value.int .i64 1))
      have hYw : w1.heap.size ≥ Y := by have := HY.out.lt; omega
      have hk8 : Kept [] w ((((((((w5.setCell { block := Y, off := 0 } (Value.string s)).setCell { block := Y, off := 1 } (Value.slice p1 n1 c1)).setCell { block := Y, off := 2 } (Value.slice p2 n2 c2)).setCell { block := Y, off := 3 } (Value.string z)).setCell { block := Y, off := 4 } (Value.int .i64 0)).setCell { block := Y, off := 5 } (Value.int .i64 (-1))).setCell { block := Y, off := 6 } (Value.int .i64 (-1))).setCell { block := Y, off := 7 } (Value.int .i64 1)) := by
        have h0 := HK0.out.trans0 HK5.out
        have hy : w.heap.size ≤ Y := by rw [HWY.out]; exact Nat.le_refl _
        exact (((((((h0.setCell (.inr hy) _).setCell (.inr hy) _).setCell (.inr hy) _).setCell (.inr hy) _).setCell (.inr hy) _).setCell (.inr hy) _).setCell (.inr hy) _).setCell (.inr hy) _
      clear y0 y1 y2 y3 y4 y5 y6 y7 f0 f1 f2 f3 f4 f5 f6 f7
      generalize ((((((((w5.setCell { block := Y, off := 0 } (Value.string s)).setCell { block := Y, off := 1 } (Value.slice p1 n1 c1)).setCell { block := Y, off := 2 } (Value.slice p2 n2 c2)).setCell { block := Y, off := 3 } (Value.string z)).setCell { block := Y, off := 4 } (Value.int .i64 0)).setCell { block := Y, off := 5 } (Value.int .i64 (-1))).setCell { block := Y, off := 6 } (Value.int .i64 (-1))).setCell { block := Y, off := 7 } (Value.int .i64 1)) = w8 at hb8 hk8 ⊢
      have y0 := hb8.at (i := 0) rfl
      have y1 := hb8.at (i := 1) rfl
      have y2 := hb8.at (i := 2) rfl
      have y3 := hb8.at (i := 3) rfl
      have y4 := hb8.at (i := 4) rfl
      have y5 := hb8.at (i := 5) rfl
      have y6 := hb8.at (i := 6) rfl
      have y7 := hb8.at (i := 7) rfl
      (try simp only [Exit.inBlock, Exit.then])
      refine bodyPost_ret (v := .tuple #[.agg #[.string s, .slice p1 n1 c1, .slice p2 n2 c2, .string z, .int .i64 0, .int .i64 (-1), .int .i64 (-1), .int .i64 1], .bool true]) ?_ rfl ⟨⟨_, rfl, p1, n1, c1, p2, n2, c2, z, 0, -1, -1, 1, rfl⟩, hk8⟩
      rw [results_cell_tmp rfl]
      go_simp
end

section
/-- What a symbol of n rows, black where f says so, must be to be read as the letters cs. -/
structure Sym (f : Nat → Nat → Bool) (n K t m e T nB short ls ec : Nat) (RB : List Bool) (xs cs raw : List Nat) (dl : Nat → Nat) (D L : Nat → List Nat) : Prop where
  ver : K < 7
  size : n = 21 + 4 * K
  fmt : t < 32
  seven : K = 6 → ∀ m, m < 18 → f (m / 3) (34 + m % 3) = versionBits7.getD (17 - m) false
  fst : ∀ i, i < 15 → f (tcy i) (tcx i) = (typeBits t).getD (14 - i) false
  snd : ∀ i, i < 15 → f (fy2 n i) (fx2 n i) = (typeBits t).getD (14 - i) false
  bits : rdL (patOf K) (unm f (t % 8) n n 0) (zig n (10 + 2 * K)) = RB
  wds : words (K + 1) = T
  len : RB.length / 8 = T
  few : T ≤ 300
  raws : wordsOf RB T = raw.map u8c
  runs : Runs (lev (K + 1) (lix (t / 8))) nB short ls
  ecl : (lev (K + 1) (lix (t / 8))).ec = ec
  nb : nB ≤ 6
  s1 : 1 ≤ short
  s9 : short ≤ 120
  e1 : 1 ≤ ec
  e9 : ec < 30
  mix : Mixed raw xs T nB short ls ec dl D L
  told : Told xs cs m e
set_option maxRecDepth 100000 in
set_option maxHeartbeats 4000000 in
theorem decodeMat_c {w : World} {DE R Fd lo G C n rs K t m e T nB short ls ec : Nat} {ws : List Nat} {f : Nat → Nat → Bool} {RB : List Bool} {hv : Value} {xs cs raw : List Nat} {dl : Nat → Nat} {D L : Nat → List Nat}
    (hD : Blk w DE [ptv R] 180) (hR : Blk w R [ptv Fd] 237) (hF : GF w Fd lo) (hG : GM w G C n n rs ws f) (hClo : lo + 7 ≤ C) (S : Sym f n K t m e T nB short ls ec RB xs cs raw dl D L) :
    Calls Tryz.prog 132 #[ptv DE, ptv G, hv] w fun q w' => DecOut w' (t / 8) xs cs q ∧ Kept [C] w w' := by
  have HD := Lib.hid hD
  have HR := Lib.hid hR
  have HF := Lib.hid hF
  have HG := Lib.hid hG
  have HS := Lib.hid S
  have HC := Lib.hid hClo
  clear hD hR hF hG hClo S
  go_enter Tryz.func132, Tryz.ntmps132
  go_wp2_with fail
  refine (parser_c HG.out HS.out.size HS.out.ver).mono ?_
  rintro q w1 ⟨⟨P, rfl, hp, hl⟩, hk⟩
  have HP := Lib.hid hp
  have HK := Lib.hid hk
  have HL := Lib.hid hl
  clear hp hk hl
  go_wp2_with fail
  refine (decodeSym_c (HK.out.blk HD.out (by simp)) (HK.out.blk HR.out (by simp)) (HF.out.kept0 HK.out) HP.out (HG.out.kept HK.out (by simp) (by simp)) HS.out.ver HS.out.size HS.out.fmt (by have := HG.out.ar.lt; have := HL.out; have := HC.out; omega) HC.out HS.out.seven HS.out.fst HS.out.snd
    HS.out.bits HS.out.wds HS.out.len HS.out.few HS.out.raws HS.out.runs HS.out.ecl HS.out.nb HS.out.s1 HS.out.s9 HS.out.e1 HS.out.e9 HS.out.mix HS.out.told).mono ?_
  rintro q w2 ⟨hres, hk2⟩
  obtain ⟨A, base, ⟨Z, z, sv, rfl, hr1⟩, hA⟩ := hres
  have HR1 := Lib.hid hr1
  have HA := Lib.hid hA
  have HK2 : Hid (Kept [C] w w2) := Lib.hid ((HK.out.mono (by simp)).trans hk2 (by intro x hx hx2; simp at hx; have := HL.out; rcases hx with rfl | rfl; { omega }; { simp }))
  clear hr1 hA hk2
  go_wp2_with fail
  go_ret2
  exact ⟨⟨A, base, ⟨Z, z, sv, rfl, HR1.out⟩, HA.out⟩, HK2.out⟩
set_option maxRecDepth 100000 in
set_option maxHeartbeats 4000000 in
theorem decodeRows_c {w : World} {DE R Fd lo RR n K t m e T nB short ls ec : Nat} {g : Nat → Nat → Bool} {RB : List Bool} {hv : Value} {xs cs raw : List Nat} {dl : Nat → Nat} {D L : Nat → List Nat}
    (hD : Blk w DE [ptv R] 180) (hR : Blk w R [ptv Fd] 237) (hF : GF w Fd lo) (hlo : lo + 7 ≤ w.heap.size) (hB : BR w RR n n g) (S : Sym (within g n) n K t m e T nB short ls ec RB xs cs raw dl D L) :
    Calls Tryz.prog 94 #[ptv DE, slv RR n n, hv] w fun q w' => DecOut w' (t / 8) xs cs q ∧ Kept [] w w' := by
  have HD := Lib.hid hD
  have HR := Lib.hid hR
  have HF := Lib.hid hF
  have HB := Lib.hid hB
  have HS := Lib.hid S
  have HC := Lib.hid hlo
  clear hD hR hF hB hlo S
  go_enter Tryz.func94, Tryz.ntmps94
  go_wp2_with fail
  refine (parse_c HB.out (by have := HS.out.size; omega) (by have := HS.out.size; have := HS.out.ver; omega) rfl).mono ?_
  rintro q w1 ⟨⟨G, C, ws, rfl, hg, _, hc⟩, hk⟩
  have HG := Lib.hid hg
  have HK := Lib.hid hk
  have HCC := Lib.hid hc
  clear hg hk hc
  go_wp2_with fail
  refine (decodeMat_c (HK.out.blk HD.out (by simp)) (HK.out.blk HR.out (by simp)) (HF.out.kept0 HK.out) HG.out (by have := HC.out; have := HCC.out; omega) HS.out).mono ?_
  rintro q w2 ⟨hres, hk2⟩
  obtain ⟨A, base, ⟨Z, z, sv, rfl, hr1⟩, hA⟩ := hres
  have HR1 := Lib.hid hr1
  have HA := Lib.hid hA
  have HK2 : Hid (Kept [] w w2) := Lib.hid (HK.out.trans hk2 (by intro x hx hx2; simp at hx; have := HCC.out; omega))
  clear hr1 hA hk2
  go_wp2_with fail
  go_ret2
  exact ⟨⟨A, base, ⟨Z, z, sv, rfl, HR1.out⟩, HA.out⟩, HK2.out⟩
set_option maxRecDepth 100000 in
set_option maxHeartbeats 4000000 in
theorem decodeBare_c {w : World} {DE R Fd lo RR n K t m e T nB short ls ec : Nat} {g : Nat → Nat → Bool} {RB : List Bool} {xs cs raw : List Nat} {dl : Nat → Nat} {D L : Nat → List Nat}
    (hD : Blk w DE [ptv R] 180) (hR : Blk w R [ptv Fd] 237) (hF : GF w Fd lo) (hlo : lo + 7 ≤ w.heap.size) (hB : BR w RR n n g) (S : Sym (within g n) n K t m e T nB short ls ec RB xs cs raw dl D L) :
    Calls Tryz.prog 35 #[ptv DE, slv RR n n] w fun q w' => DecOut w' (t / 8) xs cs q ∧ Kept [] w w' := by
  have HC := Lib.hid (decodeRows_c (hv := .map none) hD hR hF hlo hB S)
  clear hD hR hF hlo hB S
  go_enter Tryz.func35, Tryz.ntmps35
  go_wp2_with fail
  refine HC.out.mono ?_
  rintro q w2 ⟨hres, hk2⟩
  obtain ⟨A, base, ⟨Z, z, sv, rfl, hr1⟩, hA⟩ := hres
  have HR1 := Lib.hid hr1
  have HA := Lib.hid hA
  have HK2 := Lib.hid hk2
  clear hr1 hA hk2
  go_wp2_with fail
  go_ret2
  exact ⟨⟨A, base, ⟨Z, z, sv, rfl, HR1.out⟩, HA.out⟩, HK2.out⟩
set_option maxRecDepth 100000 in
set_option maxHeartbeats 4000000 in
theorem qrDecode_c {w : World} {RR n K t m e T nB short ls ec : Nat} {g : Nat → Nat → Bool} {RB : List Bool} {xs cs raw : List Nat} {dl : Nat → Nat} {D L : Nat → List Nat}
    (hB : BR w RR n n g) (S : Sym (within g n) n K t m e T nB short ls ec RB xs cs raw dl D L) :
    Calls Tryz.prog 19 #[slv RR n n] w fun q w' => (∃ v, q = .returned (.tuple #[v, .bool true]) ∧ ViewOf (textOf cs) v) ∧ Kept [] w w' := by
  have HB := Lib.hid hB
  have HS := Lib.hid S
  clear hB S
  have hb0 := Blk.new w [Value.string ⟨#[]⟩, .slice none 0 0, .slice none 0 0, .string ⟨#[]⟩, .int .i64 0, .int .i64 0, .int .i64 0, .int .i64 0] 40
  have hk0 : Kept [] w (w.alloc (Obj.cells #[Value.string { data := #[] }, Value.slice none 0 0, Value.slice none 0 0, Value.string { data := #[] }, Value.int .i64 0, Value.int .i64 0, Value.int .i64 0, Value.int .i64 0] 40)) := (Kept.refl _ _).alloc _
  go_enter Tryz.func19, Tryz.ntmps19
  go_wp2_with fail
  have HY := Lib.hid hb0
  have HK0 := Lib.hid hk0
  obtain ⟨Y, hY⟩ : ∃ Y, w.heap.size = Y := ⟨_, rfl⟩
  have HWY := Lib.hid hY
  rw [hY] at HY ⊢
  clear hb0 hk0 hY
  generalize (w.alloc (Obj.cells #[Value.string { data := #[] }, Value.slice none 0 0, Value.slice none 0 0, Value.string { data := #[] }, Value.int .i64 0, Value.int .i64 0, Value.int .i64 0, Value.int .i64 0] 40)) = w1 at HY HK0 ⊢
  refine (newDecoder_c w1).mono ?_
  rintro q w2 ⟨⟨DE, R, rfl, hd, hr, hf⟩, hk, hs⟩
  have HD := Lib.hid hd
  have HR := Lib.hid hr
  have HF := Lib.hid hf
  have HK := Lib.hid hk
  have HSZ := Lib.hid hs
  clear hd hr hf hk hs
  go_wp2_with fail
  refine (decodeBare_c HD.out HR.out HF.out HSZ.out ((HB.out.kept HK0.out (by simp)).kept HK.out (by simp)) HS.out).mono ?_
  rintro q w3 ⟨hres, hk3⟩
  obtain ⟨A, base, ⟨Z, z, sv, rfl, hr1, hsv, _⟩, hA⟩ := hres
  have HR1 := Lib.hid hr1
  have HSV := Lib.hid hsv
  have HA := Lib.hid hA
  have HK3 := Lib.hid hk3
  clear hr1 hsv hA hk3
  go_wp2_with fail
  refine (decoded_c HR1.out HA.out rfl HS.out.mix.few HSV.out).mono ?_
  rintro q w4 ⟨⟨v, rfl, hv⟩, hk4⟩
  obtain ⟨p1, n1, c1, p2, n2, c2, z2, x1, x2, x3, x4, rfl⟩ := hv
  have HK4 := Lib.hid (((HK.out.trans0 HK3.out).trans0 hk4))
  clear hk4
  have hy5 := HK4.out.blk HY.out (by simp)
  have HY5 := Lib.hid hy5
  have y0 := hy5.at (i := 0) rfl
  have y1 := hy5.at (i := 1) rfl
  have y2 := hy5.at (i := 2) rfl
  have y3 := hy5.at (i := 3) rfl
  have y4 := hy5.at (i := 4) rfl
  have y5 := hy5.at (i := 5) rfl
  have y6 := hy5.at (i := 6) rfl
  have y7 := hy5.at (i := 7) rfl
  have f0 := hy5.free 0
  have f1 := hy5.free 1
  have f2 := hy5.free 2
  have f3 := hy5.free 3
  have f4 := hy5.free 4
  have f5 := hy5.free 5
  have f6 := hy5.free 6
  have f7 := hy5.free 7
  clear hy5
  go_wp2_with fail
  have hb8 : Blk ((((((((w4.setCell { block := Y, off := 0 } (Value.string (textOf cs))).setCell { block := Y, off := 1 } (Value.slice p1 n1 c1)).setCell { block := Y, off := 2 } (Value.slice p2 n2 c2)).setCell { block := Y, off := 3 } (Value.string z2)).setCell { block := Y, off := 4 } (Value.int .i64 x1)).setCell { block := Y, off := 5 } (Value.int .i64 x2)).setCell { block := Y, off := 6 } (Value.int .i64 x3)).setCell { block := Y, off := 7 } (Value.int .i64 x4)) Y [Value.string (textOf cs), Value.slice p1 n1 c1, Value.slice p2 n2 c2, Value.string z2, Value.int .i64 x1, Value.int .i64 x2, Value.int .i64 x3, Value.int .i64 x4] 40 := ((((((((HY5.out.set 0 (Value.string (textOf cs))).set 1 (Value.slice p1 n1 c1)).set 2 (Value.slice p2 n2 c2)).set 3 (Value.string z2)).set 4 (Value.int .i64 x1)).set 5 (Value.int .i64 x2)).set 6 (Value.int .i64 x3)).set 7 (Value.int .i64 x4))
  have hk8 : Kept [] w ((((((((w4.setCell { block := Y, off := 0 } (Value.string (textOf cs))).setCell { block := Y, off := 1 } (Value.slice p1 n1 c1)).setCell { block := Y, off := 2 } (Value.slice p2 n2 c2)).setCell { block := Y, off := 3 } (Value.string z2)).setCell { block := Y, off := 4 } (Value.int .i64 x1)).setCell { block := Y, off := 5 } (Value.int .i64 x2)).setCell { block := Y, off := 6 } (Value.int .i64 x3)).setCell { block := Y, off := 7 } (Value.int .i64 x4)) := by
    have h0 := HK0.out.trans0 HK4.out
    have hy : w.heap.size ≤ Y := by rw [HWY.out]; exact Nat.le_refl _
    exact (((((((h0.setCell (.inr hy) _).setCell (.inr hy) _).setCell (.inr hy) _).setCell (.inr hy) _).setCell (.inr hy) _).setCell (.inr hy) _).setCell (.inr hy) _).setCell (.inr hy) _
  clear y0 y1 y2 y3 y4 y5 y6 y7 f0 f1 f2 f3 f4 f5 f6 f7
  generalize ((((((((w4.setCell { block := Y, off := 0 } (Value.string (textOf cs))).setCell { block := Y, off := 1 } (Value.slice p1 n1 c1)).setCell { block := Y, off := 2 } (Value.slice p2 n2 c2)).setCell { block := Y, off := 3 } (Value.string z2)).setCell { block := Y, off := 4 } (Value.int .i64 x1)).setCell { block := Y, off := 5 } (Value.int .i64 x2)).setCell { block := Y, off := 6 } (Value.int .i64 x3)).setCell { block := Y, off := 7 } (Value.int .i64 x4)) = w8 at hb8 hk8 ⊢
  have y0 := hb8.at (i := 0) rfl
  have y1 := hb8.at (i := 1) rfl
  have y2 := hb8.at (i := 2) rfl
  have y3 := hb8.at (i := 3) rfl
  have y4 := hb8.at (i := 4) rfl
  have y5 := hb8.at (i := 5) rfl
  have y6 := hb8.at (i := 6) rfl
  have y7 := hb8.at (i := 7) rfl
  (try simp only [Exit.inBlock, Exit.then])
  refine bodyPost_ret (v := .tuple #[.agg #[Value.string (textOf cs), Value.slice p1 n1 c1, Value.slice p2 n2 c2, Value.string z2, Value.int .i64 x1, Value.int .i64 x2, Value.int .i64 x3, Value.int .i64 x4], .bool true]) ?_ rfl ⟨⟨_, rfl, p1, n1, c1, p2, n2, c2, z2, x1, x2, x3, x4, rfl⟩, hk8⟩
  rw [results_cell_tmp rfl]
  go_simp
end
end Go.Proofs.YtplpafbkalkchaaGreatDoor
