/- A symbol is read out: the version, and places in data. Walk: a symbol is read out. Walk: a matrix of bits is made of rows of booleans. Walks: the decoder's frame. -/
import Derived.Test.YtplpafbkalkchaaGreatDoorW40
import Derived.Test.YtplpafbkalkchaaGreatDoorW45
import Derived.Test.YtplpafbkalkchaaGreatDoorW46
import Derived.Test.YtplpafbkalkchaaGreatDoorW34
namespace Go.Proofs.YtplpafbkalkchaaGreatDoor
open Go Go.RowKit Go.Proofs
set_option linter.all false

section
theorem verGive_c {w : World} {P G C n rs K : Nat} {ws : List Nat} {f : Nat → Nat → Bool} (hP : Blk w P [ptv G, .pointer none, .pointer none, .bool false] 312) (hG : GM w G C n n rs ws f) (hn : n = 21 + 4 * K) (hK : K < 7)
    (hb : K = 6 → ∀ m, m < 18 → f (m / 3) (34 + m % 3) = versionBits7.getD (17 - m) false) :
    Calls Tryz.prog 163 #[ptv P] w fun e w' => (∃ V N pv, e = .returned (.tuple #[ptv V, .nilIface]) ∧ Ver w' V N (K + 1) ∧ Blk w' P [ptv G, pv, .pointer none, .bool false] 312 ∧ (pv = .pointer none ∧ K < 6 ∨ pv = ptv V)) ∧ Kept [P] w w' := by
  by_cases h6 : K < 6
  · refine (readVersionS_c hP hG hn h6).mono ?_
    rintro e w' ⟨⟨V, N, rfl, hv, _⟩, hk⟩
    exact ⟨⟨V, N, .pointer none, rfl, hv, hk.blk hP (by simp), .inl ⟨rfl, h6⟩⟩, hk.mono (by simp)⟩
  · obtain rfl : K = 6 := by omega
    subst hn
    refine (readVersion7_c hP hG (hb rfl)).mono ?_
    rintro e w' ⟨⟨V, N, rfl, hv, hp, _⟩, hk⟩
    exact ⟨⟨V, N, ptv V, rfl, hv, hp, .inr rfl⟩, hk⟩
theorem verAgain_c {w : World} {P G C n rs K V N : Nat} {ws : List Nat} {f : Nat → Nat → Bool} {pv pf : Value} (hP : Blk w P [ptv G, pv, pf, .bool false] 312) (hG : GM w G C n n rs ws f) (hn : n = 21 + 4 * K) (hv : Ver w V N (K + 1)) (h : pv = .pointer none ∧ K < 6 ∨ pv = ptv V) :
    Calls Tryz.prog 163 #[ptv P] w fun e w' => (∃ V N, e = .returned (.tuple #[ptv V, .nilIface]) ∧ Ver w' V N (K + 1)) ∧ Kept [] w w' := by
  rcases h with ⟨rfl, h6⟩ | rfl
  · refine (readVersionS_c hP hG hn h6).mono ?_
    rintro e w' ⟨⟨V, N, rfl, hv, _⟩, hk⟩
    exact ⟨⟨V, N, rfl, hv⟩, hk⟩
  · refine (readVersion2_c hP).mono ?_
    rintro e w' ⟨rfl, rfl⟩
    exact ⟨⟨V, N, rfl, hv⟩, Kept.refl _ _⟩
/-- Where the data of block j begin. -/
def doff (dl : Nat → Nat) (j : Nat) : Nat := ((List.range j).map dl).sum
theorem doff_succ (dl : Nat → Nat) (j : Nat) : doff dl (j + 1) = doff dl j + dl j := by unfold doff; rw [List.range_succ, List.map_append, List.sum_append]; simp
theorem doff_mono (dl : Nat → Nat) {i j : Nat} (h : i ≤ j) : doff dl i ≤ doff dl j := by
  induction h with
  | refl => exact Nat.le_refl _
  | step _ ih => rw [doff_succ]; omega
theorem flat_at (D : Nat → List Nat) (dl : Nat → Nat) (hD : ∀ j, (D j).length = dl j) : ∀ nB, ((List.range nB).flatMap D).length = doff dl nB ∧ ∀ j i, j < nB → i < dl j → ((List.range nB).flatMap D).getD (doff dl j + i) 0 = (D j).getD i 0
  | 0 => ⟨rfl, by intro j i h; omega⟩
  | nB + 1 => by
    have ih := flat_at D dl hD nB
    rw [List.range_succ, List.flatMap_append]
    have e1 : [nB].flatMap D = D nB := by simp
    rw [e1]
    refine ⟨by rw [List.length_append, ih.1, hD, doff_succ], ?_⟩
    intro j i hj hi
    rcases Nat.lt_or_ge j nB with h | h
    · have := doff_mono dl (show j + 1 ≤ nB from h)
      rw [doff_succ] at this
      rw [getD_left (by rw [ih.1]; omega)]
      exact ih.2 j i h hi
    · obtain rfl : j = nB := by omega
      rw [getD_right (by rw [ih.1]; omega), ih.1, Nat.add_sub_cancel_left]
theorem DBs.same {w w' : World} {B0 RB nB m ec : Nat} {dl ps qs : Nat → Nat} {cw : Nat → Nat → Nat} (h : DBs w B0 RB nB m ec dl ps qs cw) (j : Nat) (hj : j < m) (hk : Kept [qs j] w w') (hq : Blk w' (qs j) ((List.range (dl j + ec)).map fun i => u8c (cw j i)) 5) : DBs w' B0 RB nB m ec dl ps qs cw := by
  have h5 := h.wor j hj
  refine ⟨hk.keptT' h.row h5 (by decide), fun k hk2 => hk.keptT' (h.blk k hk2) h5 (by decide), fun k hk2 => ?_, h.lo, h.loR, h.inj⟩
  by_cases e : k = j
  · subst e; exact hq
  · exact hk.blk (h.wor k hk2) (by simp; exact fun e2 => e (h.inj k j hk2 hj e2))
end

section
/-- What the reading of a symbol needs of its words: blocks of data D and words of check L, mixed to raw; the data of all are xs. -/
structure Mixed (raw xs : List Nat) (T nB short ls ec : Nat) (dl : Nat → Nat) (D L : Nat → List Nat) : Prop where
  len : raw.length = T
  lt : ∀ x ∈ raw, x < 256
  lens : T = short * nB + (nB - ls) + ec * nB
  dls : ∀ j, dl j = if ls ≤ j then short + 1 else short
  row : ∀ j, j < nB → (List.range (dl j + ec)).map (cwAt raw nB short ls (short * nB + (nB - ls)) j) = D j ++ L j
  fine : ∀ j, j < nB → Fine (D j) (L j) ec
  dlen : ∀ j, (D j).length = dl j
  dlt : ∀ j, ∀ y ∈ D j, y < 256
  all : xs = (List.range nB).flatMap D
  few : xs.length ≤ 300
theorem DBs.keptX {w w' : World} {B0 RB nB m ec X : Nat} {dl ps qs : Nat → Nat} {cw : Nat → Nat → Nat} {us : List Value} (h : DBs w B0 RB nB m ec dl ps qs cw) (hk : Kept [X] w w') (hX : Blk w X us 5) (hq : ∀ j, j < m → qs j ≠ X) : DBs w' B0 RB nB m ec dl ps qs cw :=
  ⟨hk.keptT' h.row hX (by decide), fun k hk2 => hk.keptT' (h.blk k hk2) hX (by decide), fun k hk2 => hk.blk (h.wor k hk2) (by simpa using hq k hk2), h.lo, h.loR, h.inj⟩
def DecOut (w' : World) (l : Nat) (xs cs : List Nat) (q : Ending) : Prop := ∃ A base, DecRes w' A xs.length l (textOf cs) base q ∧ Blk w' A (xs.map u8c) 5
set_option maxRecDepth 100000 in
set_option maxHeartbeats 16000000 in
theorem decodeSym_c {w : World} {DE R Fd lo P G C n rs K t m e T nB short ls ec : Nat} {ws : List Nat} {f : Nat → Nat → Bool} {RB : List Bool} {hv : Value} {xs cs raw : List Nat} {dl : Nat → Nat} {D L : Nat → List Nat}
    (hD : Blk w DE [ptv R] 180) (hR : Blk w R [ptv Fd] 237) (hF : GF w Fd lo) (hP : Blk w P [ptv G, .pointer none, .pointer none, .bool false] 312) (hG : GM w G C n n rs ws f)
    (hK : K < 7) (hn : n = 21 + 4 * K) (ht : t < 32) (hPlo : lo + 7 ≤ P) (hClo : lo + 7 ≤ C)
    (hver : K = 6 → ∀ m, m < 18 → f (m / 3) (34 + m % 3) = versionBits7.getD (17 - m) false)
    (h1 : ∀ i, i < 15 → f (tcy i) (tcx i) = (typeBits t).getD (14 - i) false) (h2 : ∀ i, i < 15 → f (fy2 n i) (fx2 n i) = (typeBits t).getD (14 - i) false)
    (hRB : rdL (patOf K) (unm f (t % 8) n n 0) (zig n (10 + 2 * K)) = RB) (hT : words (K + 1) = T) (hlen : RB.length / 8 = T) (hT9 : T ≤ 300) (hraw : wordsOf RB T = raw.map u8c)
    (hRuns : Runs (lev (K + 1) (lix (t / 8))) nB short ls) (hec : (lev (K + 1) (lix (t / 8))).ec = ec) (hB : nB ≤ 6) (hS1 : 1 ≤ short) (hS : short ≤ 120) (he1 : 1 ≤ ec) (he : ec < 30)
    (hM : Mixed raw xs T nB short ls ec dl D L) (hTold : Told xs cs m e) :
    Calls Tryz.prog 160 #[ptv DE, ptv P, hv] w fun q w' => DecOut w' (t / 8) xs cs q ∧ Kept [P, C] w w' := by
  have HD := Lib.hid hD
  have HR := Lib.hid hR
  have HF := Lib.hid hF
  have HG := Lib.hid hG
  have HM := Lib.hid hM
  have HTD := Lib.hid hTold
  have HRB := Lib.hid hRB
  have HT := Lib.hid hT
  have HLEN := Lib.hid hlen
  have HRAW := Lib.hid hraw
  have HRN := Lib.hid hRuns
  have HEC := Lib.hid hec
  have HN := Lib.hid hn
  have HH1 := Lib.hid h1
  have HH2 := Lib.hid h2
  have HPG : Hid (G ≠ P ∧ C ≠ P) := Lib.hid ⟨fun e => (by subst e; have := hP.type hG.st; cases this), fun e => (by subst e; have := hP.type hG.ar; cases this)⟩
  have HDN : Hid (DE ∉ [P, C] ∧ R ∉ [P, C]) := Lib.hid ⟨fun e => (by simp at e; rcases e with e | e <;> subst e; { have := hP.type hD; cases this }; { have := hD.type hG.ar; cases this }), fun e => (by simp at e; rcases e with e | e <;> subst e; { have := hP.type hR; cases this }; { have := hR.type hG.ar; cases this })⟩
  have HPL : Hid (P < w.heap.size) := Lib.hid hP.lt
  have HVG := Lib.hid (verGive_c hP hG hn hK hver)
  obtain ⟨l, hl⟩ : ∃ l, t / 8 = l := ⟨_, rfl⟩
  obtain ⟨x, hx⟩ : ∃ x, t % 8 = x := ⟨_, rfl⟩
  have hl4 : l < 4 := by omega
  have hx8 : x < 8 := by omega
  have HL := Lib.hid hl
  have HX := Lib.hid hx
  rw [hl]
  have HLO := Lib.hid hPlo
  have HCO := Lib.hid hClo
  clear hD hR hF hP hG hM hTold hRB hT hlen hraw hRuns hec hver h1 h2 hl hx hPlo hClo hn
  go_enter Tryz.func160, Tryz.ntmps160
  go_wp2_with fail
  refine HVG.out.mono ?_
  rintro q w1 ⟨⟨V, N, pv, rfl, hv1, hp1, hpv⟩, hk1⟩
  have HV1 := Lib.hid hv1
  have HP1 := Lib.hid hp1
  have HPV := Lib.hid hpv
  have HK1 : Hid (Kept [P, C] w w1) := Lib.hid (hk1.mono (by simp))
  have HG1 := Lib.hid (HG.out.kept hk1 (by simpa using HPG.out.1) (by simpa using HPG.out.2))
  clear hv1 hp1 hpv hk1 HVG
  go_wp2_with fail
  refine (readFormat_c HP1.out HG1.out (by have := HN.out; omega) (by have := HN.out; omega) t ht HH1.out HH2.out).mono ?_
  rintro q w2 ⟨⟨FA, rfl, hfi, hp2, _⟩, hk2⟩
  rw [HL.out, HX.out] at hfi
  have HFI := Lib.hid hfi
  have HP2 := Lib.hid hp2
  have HK2 := Lib.hid (HK1.out.trans hk2 (by intro x h _; simp at h; simp [h]))
  have HG2 := Lib.hid (HG1.out.kept hk2 (by simpa using HPG.out.1) (by simpa using HPG.out.2))
  have HV2 := Lib.hid (HV1.out.keptU hk2 (fun z hz => by simp at hz; subst hz; exact ⟨_, HP1.out⟩) (by decide))
  have f0 := hfi.at (i := 0) rfl
  clear hfi hp2 hk2 HH1 HH2
  go_wp2_with fail
  refine (fiLevel_c f0).mono ?_
  rintro q wx ⟨rfl, rfl⟩
  clear f0
  go_wp2_with fail
  refine (readWords_c HP2.out HFI.out HG2.out hK HN.out hx8 (fun e => HPG.out.2 e.symm) (verAgain_c HP2.out HG2.out HN.out HV2.out HPV.out) (by have := HRB.out; rw [HX.out] at this; exact this) HT.out HLEN.out hT9).mono ?_
  rintro q w3 ⟨⟨A, rfl, hA, _⟩, hk3⟩
  rw [HRAW.out] at hA
  have HA3 := Lib.hid hA
  have HK3 := Lib.hid (HK2.out.trans hk3 (by intro x h _; simp at h; simp [h]))
  have HV3 := Lib.hid (HV2.out.keptT hk3 (fun z hz => by simp at hz; subst hz; exact ⟨_, HG2.out.ar⟩))
  clear hA hk3
  go_wp2_with fail
  refine (getBlocks_c HV3.out (by omega) (by omega) hl4 HA3.out HM.out.len HT.out hT9 HM.out.lt (by have := HRN.out; rw [HL.out] at this; exact this) (by have := HEC.out; rw [HL.out] at this; exact this) hB hS1 hS he1 (by omega) HM.out.lens).mono ?_
  rintro q w4 ⟨⟨B, ps, qs, rfl, hdb⟩, hk4⟩
  rw [show (fun j => if ls ≤ j then short + 1 else short) = dl from by funext j; rw [HM.out.dls]] at hdb
  obtain ⟨c, hc⟩ : ∃ c, cwAt raw nB short ls (short * nB + (nB - ls)) = c := ⟨_, rfl⟩
  have HC : Hid (∀ j, j < nB → (List.range (dl j + ec)).map (c j) = D j ++ L j) := Lib.hid (fun j hj => by rw [← hc]; exact HM.out.row j hj)
  rw [hc] at hdb
  have HDB := Lib.hid hdb
  have HK4 := Lib.hid (HK3.out.trans0 hk4)
  have HV4 := Lib.hid (HV3.out.kept hk4 (by simp))
  have HZ4 := Lib.hid hk4.size
  have nBi : (nB : Int) ≤ 6 := by omega
  clear hdb hk4 hc
  obtain ⟨wo, rfl⟩ : ∃ v : World, v = w4 := ⟨_, rfl⟩
  have hdl9 : ∀ j, dl j ≤ 121 := fun j => by rw [HM.out.dls]; split <;> omega
  have HDL := Lib.hid hdl9
  have HOF : Hid (∀ j, j ≤ nB → doff dl j ≤ 300) := Lib.hid (fun j hj => by
    have h1 := doff_mono dl hj
    have h2 := (flat_at D dl HM.out.dlen nB).1
    rw [← HM.out.all] at h2
    have := HM.out.few; omega)
  clear hdl9
  go_wp2_with fail
  go_loopw [14, 67] (fun s14 s67 wz => ∃ j o : Nat, j ≤ nB ∧ o = doff dl j ∧ s14 = num o ∧ s67 = num j ∧ wo = wz) (fun _ i _ => (nB - intOf i).toNat)
  case atStart => exact ⟨0, 0, by omega, rfl, rfl, rfl, rfl⟩
  case round =>
    obtain ⟨j, o, hj, ho, rfl, rfl, rfl⟩ := hrel
    have HO := Lib.hid ho
    have hji : (j : Int) ≤ nB := by omega
    have o9 : o ≤ 300 := by rw [ho]; exact HOF.out j hj
    have o9i : (o : Int) ≤ 300 := by omega
    clear ho
    by_cases hlt : j < nB
    · have hlti : (j : Int) < nB := by omega
      have y1 := HDB.out.row_at j hlt (Nat.le_refl _)
      have y2 := (HDB.out.blk j hlt).at (i := 0) rfl
      have hd9 := HDL.out j
      have hds := doff_succ dl j
      generalize ps j = pj at y1 y2
      have HDS := Lib.hid hds
      obtain ⟨dj, hdj⟩ : ∃ d, dl j = d := ⟨_, rfl⟩
      have HDJ := Lib.hid hdj
      rw [hdj] at y2 hd9
      have d9i : (dj : Int) ≤ 121 := by omega
      clear hds hdj
      go_wp2_with fail
      refine (dbData_c y2).mono ?_
      rintro q wx ⟨rfl, rfl⟩
      clear y1 y2
      go_wp2_with fail
      go_roundw
      case rel => exact ⟨j + 1, o + dj, by omega, by rw [HDS.out, HO.out, HDJ.out], by go_num, by go_num, by first | rfl | trivial⟩
      case measure => simp [intOf]; omega
    · obtain rfl : nB = j := by omega
      have hol : xs.length = o := by have h2 := (flat_at D dl HM.out.dlen nB).1; rw [← HM.out.all] at h2; rw [h2, HO.out]
      have HOL := Lib.hid hol
      have hmk := mk_bytes (o : Int) (o : Int) o o rfl rfl (by omega) (by omega) wo
      rw [rep_arr2] at hmk
      have hb0 : Blk (wo.alloc (Obj.cells (Array.replicate o (Value.int .u8 0)) 5)) wo.heap.size (mixedB xs 0) 5 := Blk.of (by rw [mixedB_zero xs _ hol]; simp [u8c]) (Blk.newA wo _ 5)
      have hk5 : Kept [] wo (wo.alloc (Obj.cells (Array.replicate o (Value.int .u8 0)) 5)) := (Kept.refl _ _).alloc _
      obtain ⟨X, hX⟩ : ∃ X, wo.heap.size = X := ⟨_, rfl⟩
      rw [hX] at hmk hb0
      have HXX := Lib.hid hX
      have HB0 := Lib.hid hb0
      have HK5 := Lib.hid (HK4.out.trans0 hk5)
      have HV5 := Lib.hid (HV4.out.kept hk5 (by simp))
      have HDB5 := Lib.hid (HDB.out.kept hk5)
      have HXQ : Hid (∀ j, j < nB → qs j < X) := Lib.hid (fun j hj => by rw [← hX]; exact (HDB.out.wor j hj).lt)
      obtain ⟨w5, hw5⟩ : ∃ v, wo.alloc (Obj.cells (Array.replicate o (Value.int .u8 0)) 5) = v := ⟨_, rfl⟩
      rw [hw5] at hmk HB0 HK5 HDB5 HV5
      clear hol hb0 hk5 hX hw5
      go_wp2_with fail
      clear hmk
      have HXL : Hid (w.heap.size ≤ X) := Lib.hid (by have := HK4.out.size; have := HXX.out; omega)
      have HWQ : Hid (w.heap.size ≤ w3.heap.size) := Lib.hid HK3.out.size
      clear HDB HV4 HK4 HO hji
      go_loopw [18, 80] (fun s18 s80 wz => ∃ j p : Nat, j ≤ nB ∧ p = doff dl j ∧ s18 = num p ∧ s80 = num j ∧ Hid (Kept [P, C] w wz ∧ DBs wz w3.heap.size B nB nB ec dl ps qs c ∧ Blk wz X (mixedB xs p) 5 ∧ Ver wz V N (K + 1))) (fun _ i _ => (nB - intOf i).toNat)
      case atStart => exact ⟨0, 0, by omega, rfl, rfl, rfl, Lib.hid ⟨HK5.out, HDB5.out, HB0.out, HV5.out⟩⟩
      case round =>
        clear HK5 HDB5 HB0 HV5
        obtain ⟨j, p, hj, hp, rfl, rfl, hst⟩ := hrel
        have HPO := Lib.hid hp
        have HKW := Lib.hid hst.out.1
        have HDW := Lib.hid hst.out.2.1
        have HBW := Lib.hid hst.out.2.2.1
        have HVW := Lib.hid hst.out.2.2.2
        have hji : (j : Int) ≤ nB := by omega
        have p9 : p ≤ 300 := by rw [hp]; exact HOF.out j hj
        have p9i : (p : Int) ≤ 300 := by omega
        clear hp hst
        by_cases hlt : j < nB
        · have hlti : (j : Int) < nB := by omega
          have y1 := HDW.out.row_at j hlt (Nat.le_refl _)
          have y2 := (HDW.out.blk j hlt).at (i := 0) rfl
          have y3 := (HDW.out.blk j hlt).at (i := 1) rfl
          have hwo := HDW.out.wor j hlt
          have hcd := HC.out j hlt
          have hwo2 : Blk wr (qs j) ((D j ++ L j).map u8c) 5 := by rw [← hcd, List.map_map]; exact hwo
          have HW2 := Lib.hid hwo2
          have hd9 := HDL.out j
          have HDS := Lib.hid (doff_succ dl j)
          obtain ⟨dj, hdj⟩ : ∃ d, dl j = d := ⟨_, rfl⟩
          have HDJ := Lib.hid hdj
          obtain ⟨n1, hn1⟩ : ∃ n1, dj + ec = n1 := ⟨_, rfl⟩
          have HN1 := Lib.hid hn1
          have hdl2 : (D j ++ L j).length = n1 := by rw [List.length_append, HM.out.dlen, (HM.out.fine j hlt).len, hdj, hn1]
          have HLL := Lib.hid hdl2
          have HXY : Hid (∀ i, i < dj → p + i < xs.length ∧ (D j ++ L j).getD i 0 = xs.getD (p + i) 0) := Lib.hid (fun i hi => by
            have h2 := flat_at D dl HM.out.dlen nB
            rw [← HM.out.all] at h2
            refine ⟨?_, ?_⟩
            · have h3 := doff_mono dl (show j + 1 ≤ nB from hlt)
              rw [HDS.out, hdj] at h3
              rw [h2.1, HPO.out]; omega
            · rw [getD_left (by rw [HM.out.dlen, hdj]; exact hi), HPO.out, h2.2 j i hlt (by rw [hdj]; exact hi)])
          have HQL : Hid (w3.heap.size ≤ qs j ∧ qs j ≠ X) := Lib.hid ⟨HDW.out.lo j hlt, by have := HXQ.out j hlt; omega⟩
          rw [hdj] at y2 y3 hd9
          rw [hn1] at y3
          have d9i : (dj : Int) ≤ 121 := by omega
          have n1i : (n1 : Int) ≤ 160 := by omega
          have n19 : n1 ≤ 200 := by omega
          clear hwo hcd hwo2 hdj hn1 hdl2
          obtain ⟨pj, hpj⟩ : ∃ pj, ps j = pj := ⟨_, rfl⟩
          rw [hpj] at y1 y2 y3
          clear hpj
          go_wp2_with fail
          refine (dbWords_c y3).mono ?_
          rintro q wx ⟨rfl, rfl⟩
          go_wp2_with fail
          refine (dbData_c y2).mono ?_
          rintro q wx ⟨rfl, rfl⟩
          clear y1 y2 y3
          go_wp2_with fail
          refine (correct_c (HF.out.kept HKW.out (by intro z hz; simp at hz; rcases hz with rfl | rfl; { exact .inr HLO.out }; { exact .inr HCO.out })) (HKW.out.blk HR.out HDN.out.2) (HKW.out.blk HD.out HDN.out.1) (D j ++ L j) dj ec n1 HLL.out HN1.out.symm n19 HW2.out
            (by intro y hy; rcases List.mem_append.1 hy with hy | hy; { exact HM.out.dlt j y hy }; { exact (HM.out.fine j hlt).lt y hy }) (HM.out.fine j hlt).zero he1 he (.inr (by have := HQL.out.1; have := HWQ.out; have := HPL.out; have := HLO.out; omega))).mono ?_
          rintro q w6 ⟨rfl, hk6, hb6⟩
          have HK6 := Lib.hid (HKW.out.trans hk6 (by intro z hz hz2; simp at hz; have := HQL.out.1; have := HWQ.out; omega))
          have HB6 := Lib.hid (hk6.blk HBW.out (by simpa using fun e => HQL.out.2 e.symm))
          have HD6 := Lib.hid (HDW.out.same j hlt hk6 (by have h9 := hb6; rw [← HC.out j hlt, List.map_map] at h9; exact h9))
          have HV6 := Lib.hid (HVW.out.keptU hk6 (fun z hz => by simp at hz; subst hz; exact ⟨_, HW2.out⟩) (by decide))
          have HQ6 := Lib.hid hb6
          clear hk6 hb6 HW2
          go_wp2_with fail
          go_loopw [18, 24] (fun s18 s24 wy => ∃ i p2 : Nat, i ≤ dj ∧ p2 = p + i ∧ s18 = num p2 ∧ s24 = num i ∧ Hid (Kept [X] w6 wy ∧ Blk wy X (mixedB xs p2) 5)) (fun _ i _ => (dj - intOf i).toNat)
          case atStart => exact ⟨0, p, by omega, by omega, rfl, rfl, Lib.hid ⟨Kept.refl _ _, HB6.out⟩⟩
          case round =>
            obtain ⟨i, p2, hi, hp2, rfl, rfl, hst⟩ := hrel
            have HP2' := Lib.hid hp2
            have HKY := Lib.hid hst.out.1
            have HBY := Lib.hid hst.out.2
            have hii : (i : Int) ≤ dj := by omega
            clear hst
            by_cases hli : i < dj
            · have hlii : (i : Int) < dj := by omega
              obtain ⟨x1, x2⟩ := HXY.out i hli
              rw [← hp2] at x1 x2
              have hn2 : i < n1 := by have := HN1.out; omega
              have hn2i : (i : Int) < n1 := by omega
              have g1 := (HKY.out.blk HQ6.out (by simpa using HQL.out.2)).at (u8_get (D j ++ L j) i (by rw [HLL.out]; exact hn2))
              rw [x2] at g1
              have g2 := HBY.out.free p2
              have g3 := HBY.out.at (mixedB_at xs p2 x1)
              have HSE := Lib.hid (mixedB_set xs p2 x1)
              obtain ⟨z, hz⟩ : ∃ z, xs.getD p2 0 = z := ⟨_, rfl⟩
              rw [hz] at g1
              have HZ := Lib.hid hz
              have HX1 := Lib.hid x1
              have xo : (p2 : Int) < o := by have := HOL.out; omega
              unfold u8c at g1 g3
              clear x1 x2 hz hp2
              go_wp2_with fail
              go_roundw
              case rel =>
                refine ⟨i + 1, p2 + 1, by omega, by have := HP2'.out; omega, by go_num, by go_num, Lib.hid ⟨HKY.out.setCell (.inl (by simp)) _, ?_⟩⟩
                have := HBY.out.set p2 (u8c z)
                rw [← HZ.out, HSE.out] at this
                rw [← HZ.out]
                exact this
              case measure => simp [intOf]; omega
            · obtain rfl : dj = i := by omega
              clear hp2
              go_wp2_with fail
              go_roundw
              case rel =>
                refine ⟨j + 1, p2, by omega, by rw [HDS.out, HP2'.out, HPO.out, HDJ.out], by go_num, by go_num, Lib.hid ⟨?_, ?_, HBY.out, ?_⟩⟩
                · exact HK6.out.trans HKY.out (by intro z hz hz2; simp at hz; have := HXL.out; omega)
                · exact HD6.out.keptX HKY.out HB6.out (fun a ha => by have := HXQ.out a ha; omega)
                · exact HV6.out.keptU HKY.out (fun z hz => by simp at hz; subst hz; exact ⟨_, HB6.out⟩) (by decide)
              case measure => simp [intOf]; omega
        · obtain rfl : nB = j := by omega
          have hpo : p = o := by have h2 := (flat_at D dl HM.out.dlen nB).1; rw [← HM.out.all] at h2; rw [HPO.out, ← h2, HOL.out]
          have hbx := HBW.out
          rw [hpo, ← HOL.out, mixedB_all] at hbx
          have HBX := Lib.hid hbx
          have hdt := decodeText_c (hv := hv) HVW.out (by omega) hl4 hbx (by
            intro y hy
            rw [HM.out.all] at hy
            obtain ⟨a, _, ha⟩ := List.mem_flatMap.1 hy
            exact HM.out.dlt a y ha) HM.out.few HTD.out
          rw [HOL.out] at hdt
          have HDT := Lib.hid hdt
          clear hbx hdt hpo
          go_wp2_with fail
          refine HDT.out.mono ?_
          rintro q w7 ⟨hres, hk7⟩
          obtain ⟨Z, z, sv, rfl, hr1⟩ := hres
          have HRES := Lib.hid hr1
          have HK7 := Lib.hid hk7
          clear hr1 hk7 HDT
          go_wp2_with fail
          go_ret2
          exact ⟨⟨X, _, ⟨Z, z, sv, rfl, by rw [HOL.out]; exact HRES.out⟩, HK7.out.blk HBX.out (by simp)⟩, HKW.out.trans0 HK7.out⟩
end

section
/-- f in the first i rows, and in the first j columns of the next; n columns at most. -/
def part (f : Nat → Nat → Bool) (n i j : Nat) : Nat → Nat → Bool := fun y x => decide (x < n ∧ (y < i ∨ (y = i ∧ x < j))) && f y x
theorem part_start (f : Nat → Nat → Bool) (n : Nat) : part f n 0 0 = fun _ _ => false := by
  funext y x; unfold part
  rw [decide_eq_false (by omega), Bool.false_and]
theorem part_row (f : Nat → Nat → Bool) (n i : Nat) : part f n i n = part f n (i + 1) 0 := by
  funext y x; unfold part
  rw [decide_eq_decide.2 (by omega : (x < n ∧ (y < i ∨ (y = i ∧ x < n))) ↔ (x < n ∧ (y < i + 1 ∨ (y = i + 1 ∧ x < 0))))]
theorem part_dark {f : Nat → Nat → Bool} {n i j : Nat} (hj : j < n) (h : f i j = true) : updB (part f n i j) i j true = part f n i (j + 1) := by
  funext y x
  unfold updB part
  by_cases e : y = i ∧ x = j
  · obtain ⟨rfl, rfl⟩ := e
    rw [if_pos ⟨rfl, rfl⟩, h, decide_eq_true (by omega), Bool.true_and]
  · rw [if_neg e, decide_eq_decide.2 (by omega : (x < n ∧ (y < i ∨ (y = i ∧ x < j))) ↔ (x < n ∧ (y < i ∨ (y = i ∧ x < j + 1))))]
theorem part_light {f : Nat → Nat → Bool} {n i j : Nat} (h : f i j = false) : part f n i j = part f n i (j + 1) := by
  funext y x
  unfold part
  by_cases e : y = i ∧ x = j
  · obtain ⟨rfl, rfl⟩ := e
    rw [h, Bool.and_false, Bool.and_false]
  · rw [decide_eq_decide.2 (by omega : (x < n ∧ (y < i ∨ (y = i ∧ x < j))) ↔ (x < n ∧ (y < i ∨ (y = i ∧ x < j + 1))))]
/-- The rows themselves, within n columns. -/
def within (f : Nat → Nat → Bool) (n : Nat) : Nat → Nat → Bool := fun y x => decide (x < n) && f y x
theorem part_end {f : Nat → Nat → Bool} {n y x : Nat} (h : y < n) : part f n n 0 y x = within f n y x := by
  unfold part within
  rw [decide_eq_decide.2 (by omega : (x < n ∧ (y < n ∨ (y = n ∧ x < 0))) ↔ x < n)]
set_option maxRecDepth 100000 in
set_option maxHeartbeats 4000000 in
theorem parse_c {w : World} {R n rs : Nat} {f : Nat → Nat → Bool} (h : BR w R n n f) (h1 : 21 ≤ n) (hn : n ≤ 200) (hrs : (n + 31) / 32 = rs) :
    Calls Tryz.prog 131 #[slv R n n] w fun e w' => (∃ G C ws, e = .returned (.tuple #[ptv G, .nilIface]) ∧ GM w' G C n n rs ws (within f n) ∧ w.heap.size ≤ G ∧ w.heap.size ≤ C) ∧ Kept [] w w' := by
  have i1 : (0 : Int) < n := by omega
  have i2 : (n : Int) ≤ 200 := by omega
  have hc0 := h.rows.at (rowOf_get _ (show 0 < n by omega))
  simp only [Nat.add_zero] at hc0
  have hm : rs * n ≤ 4000 := Nat.le_trans (Nat.mul_le_mul (show rs ≤ 7 by omega) hn) (by omega)
  have HB := Lib.hid h
  have HRS := Lib.hid hrs
  clear h hrs
  go_enter Tryz.func131, Tryz.ntmps131
  go_wp2_with fail
  refine (gmNew_c n n rs (by omega) (by omega) (by omega) (by omega) HRS.out hm w).mono ?_
  rintro e w1 ⟨rfl, hg, k1⟩
  obtain ⟨S0, hS0⟩ : ∃ s, w.heap.size = s := ⟨_, rfl⟩
  rw [hS0] at hg
  have HS0 := Lib.hid hS0
  have hRl : R + n < S0 := by
    have := (HB.out.row (n - 1) (by omega)).lt
    rw [hS0] at this; omega
  rw [hS0]
  clear hS0
  have HG := Lib.hid hg
  have HK1 := Lib.hid k1
  clear hg k1 hc0
  go_wp2_with fail
  go_loopw [8] (fun s8 wr => ∃ (i : Nat) (ws : List Nat), i ≤ n ∧ s8 = .int .i64 (i : Int) ∧ GM wr (S0 + 1) S0 n n rs ws (part f n i 0) ∧ Kept [S0] w1 wr) (fun s _ => (n - intOf s).toNat)
  case atStart => exact ⟨0, _, by omega, rfl, by rw [part_start]; exact HG.out, Kept.refl _ _⟩
  case round =>
    obtain ⟨i, ws1, hi, rfl, hg, hk⟩ := hrel
    have HG1 := Lib.hid hg
    have HK2 := Lib.hid hk
    clear hg hk
    by_cases hlt : i < n
    · have ii : (i : Int) < n := by omega
      have HB1 : Hid (BR wr R n n f) := Lib.hid ((HB.out.kept HK1.out (by simp)).kept HK2.out (by intro x hx; simp at hx; omega))
      have hci := HB1.out.rows.at (rowOf_get _ hlt)
      obtain ⟨wo, rfl⟩ : ∃ wo : World, wo = wr := ⟨_, rfl⟩
      go_wp2_with fail
      go_loopw [10] (fun s10 wr => ∃ (j : Nat) (ws : List Nat), j ≤ n ∧ s10 = .int .i64 (j : Int) ∧ GM wr (S0 + 1) S0 n n rs ws (part f n i j) ∧ Kept [S0] w1 wr) (fun s _ => (n - intOf s).toNat)
      case atStart => exact ⟨0, ws1, by omega, rfl, HG1.out, HK2.out⟩
      case round =>
        clear hci
        obtain ⟨j, ws2, hj, rfl, hg2, hk2⟩ := hrel
        have HG2 := Lib.hid hg2
        have HK3 := Lib.hid hk2
        clear hg2 hk2
        by_cases hltj : j < n
        · have ij : (j : Int) < n := by omega
          have HB2 : Hid (BR wr R n n f) := Lib.hid ((HB.out.kept HK1.out (by simp)).kept HK3.out (by intro x hx; simp at hx; omega))
          have hcj := (HB2.out.row i hlt).at (rowOf_get _ hltj)
          cases hf : f i j with
          | true =>
            rw [hf] at hcj
            have HST := Lib.hid (gmSet_c HG2.out hlt (x := j) (by have := HG2.out.wide; omega))
            have HF := Lib.hid hf
            clear hf
            go_wp2_with fail
            refine HST.out.mono ?_
            rintro e w7 ⟨rfl, hg7, hk7⟩
            rw [part_dark hltj HF.out] at hg7
            have HG7 := Lib.hid hg7
            have HK7 := Lib.hid (HK3.out.then hk7)
            clear hg7 hk7 hcj
            go_wp2_with fail
            go_roundw
            case rel => exact ⟨j + 1, _, by omega, by go_num, HG7.out, HK7.out⟩
            case measure => simp [intOf]; omega
          | false =>
            rw [hf] at hcj
            have HG7 : Hid (GM wr (S0 + 1) S0 n n rs ws2 (part f n i (j + 1))) := Lib.hid (by rw [← part_light hf]; exact HG2.out)
            clear hf
            go_wp2_with fail
            go_roundw
            case rel => exact ⟨j + 1, ws2, by omega, by go_num, HG7.out, HK3.out⟩
            case measure => simp [intOf]; omega
        · obtain rfl : j = n := by omega
          have HG7 : Hid (GM wr (S0 + 1) S0 j j rs ws2 (part f j (i + 1) 0)) := Lib.hid (by rw [← part_row]; exact HG2.out)
          go_wp2_with fail
          go_roundw
          case rel => exact ⟨i + 1, ws2, by omega, by go_num, HG7.out, HK3.out⟩
          case measure => simp [intOf]; omega
    · obtain rfl : i = n := by omega
      go_wp2_with fail
      go_ret2
      exact ⟨⟨S0 + 1, S0, ws1, rfl, HG1.out.congr (fun y x hy hx => part_end hy), by have := HS0.out; omega, by have := HS0.out; omega⟩, HK1.out.trans HK2.out (fun z hz hl => by have := HS0.out; simp at hz; omega)⟩
end

section
theorem and3 : ∀ K : Nat, K < 7 → bits .and .i64 ((21 + 4 * K : Nat) : Int) 3 = 1 := by decide
set_option maxRecDepth 100000 in
set_option maxHeartbeats 4000000 in
theorem parser_c {w : World} {G C n rs K : Nat} {ws : List Nat} {f : Nat → Nat → Bool} (hG : GM w G C n n rs ws f) (hn : n = 21 + 4 * K) (hK : K < 7) :
    Calls Tryz.prog 158 #[ptv G] w fun e w' => (∃ P, e = .returned (.tuple #[ptv P, .nilIface]) ∧ Blk w' P [ptv G, .pointer none, .pointer none, .bool false] 312 ∧ w.heap.size ≤ P) ∧ Kept [] w w' := by
  have h3 := and3 K hK
  rw [← hn] at h3
  have n1 : (21 : Int) ≤ n := by omega
  have n2 : (n : Int) ≤ 45 := by omega
  have HG := Lib.hid hG
  clear hG hn hK
  go_enter Tryz.func158, Tryz.ntmps158
  go_wp2_with fail
  refine (gmHeight_c HG.out).mono ?_
  rintro e wx ⟨rfl, rfl⟩
  go_wp2_with fail
  go_ret2
  exact ⟨⟨_, rfl, Blk.new _ _ _, Nat.le_refl _⟩, (Kept.refl _ _).alloc _⟩
set_option maxRecDepth 100000 in
theorem newDecoder_c (w : World) : Calls Tryz.prog 34 #[] w fun e w' => (∃ DE R, e = .returned (ptv DE) ∧ Blk w' DE [ptv R] 180 ∧ Blk w' R [ptv w.heap.size] 237 ∧ GF w' w.heap.size w.heap.size) ∧ Kept [] w w' ∧ w.heap.size + 7 ≤ w'.heap.size := by
  go_enter Tryz.func34, Tryz.ntmps34
  go_wp2_with fail
  refine (field_c w).mono ?_
  rintro e w1 ⟨rfl, hg, hk, hs⟩
  have HG := Lib.hid hg
  have HK := Lib.hid hk
  have HS := Lib.hid hs
  clear hg hk hs
  go_wp2_with fail
  refine (newRS_c w.heap.size w1).mono ?_
  rintro e w2 ⟨rfl, hb, hk2⟩
  have HB := Lib.hid hb
  have HK2 := Lib.hid hk2
  clear hb hk2
  go_wp2_with fail
  go_ret
  exact ⟨⟨_, _, rfl, Blk.new _ _ _, HB.out.alloc _, (HG.out.kept0 HK2.out).kept0 ((Kept.refl _ _).alloc _)⟩, (HK.out.trans0 HK2.out).alloc _, by have := HS.out; have := HK2.out.size; rw [World.size_alloc]; omega⟩
end
end Go.Proofs.YtplpafbkalkchaaGreatDoor
