/- Walks: the bytes of error correction of a block of data. Walk: words without a fault pass the check. Walk: the words of a block are checked. -/
import Derived.Test.YtplpafbkalkchaaGreatDoorW08
import Derived.Test.YtplpafbkalkchaaGreatDoorW02
namespace Go.Proofs.YtplpafbkalkchaaGreatDoor
open Go Go.RowKit Go.Proofs
set_option linter.all false

section
/-- Bytes, the first i of which are those of q, the others 0. -/
def mixedB (q : List Nat) (i : Nat) : List Value := (q.take i ++ List.replicate (q.length - i) 0).map u8c
theorem mixedB_set (q : List Nat) (i : Nat) (h : i < q.length) : (mixedB q i).set i (u8c (q.getD i 0)) = mixedB q (i + 1) := by
  unfold mixedB
  rw [← List.map_set]
  congr 1
  rw [List.take_succ_eq_append_getElem h, List.set_append_right _ _ (by rw [List.length_take]; omega), List.append_assoc]
  congr 1
  rw [List.length_take, show min i q.length = i by omega, Nat.sub_self, show q.length - i = (q.length - (i + 1)) + 1 by omega, List.replicate_succ, List.set_cons_zero, List.getD_eq_getElem?_getD, List.getElem?_eq_getElem h]; rfl
theorem mixedB_at (q : List Nat) (i : Nat) (h : i < q.length) : (mixedB q i)[i]? = some (u8c 0) := by
  unfold mixedB
  rw [List.getElem?_map, List.getElem?_append_right (by rw [List.length_take]; omega)]
  simp [List.getElem?_replicate, Nat.min_eq_left (Nat.le_of_lt h)]; omega
theorem mixedB_all (q : List Nat) : mixedB q q.length = q.map u8c := by unfold mixedB; simp
theorem mixedB_zero (q : List Nat) (n : Nat) (h : q.length = n) : mixedB q 0 = List.replicate n (u8c 0) := by unfold mixedB; simp [h]
theorem u8_get (l : List Nat) (i : Nat) (h : i < l.length) : (l.map u8c)[i]? = some (u8c (l.getD i 0)) := by
  rw [List.getElem?_map, List.getD_eq_getElem?_getD, List.getElem?_eq_getElem h]; rfl
theorem i64_and255 (p : Nat) (hp : p < 256) : bits .and .i64 (p : Int) 255 = (p : Int) := by
  have h := (bits_nat .i64 62 (by decide) (fun n h0 h1 => by rw [IntKind.wrap_i64]; omega) p 255 (by omega) (by decide)).1
  rw [show p &&& 255 = p from by rw [Nat.and_two_pow_sub_one_eq_mod p 8]; omega] at h; exact h
theorem mixed_tail0 (D : List Nat) (n ec : Nat) (h : D.length = n) : mixed (D ++ List.replicate ec 0) n = (D ++ List.replicate ec 0).map num := by
  unfold mixed
  congr 1
  rw [List.take_append_of_le_length (by omega), List.take_of_length_le (by omega)]
  simp [h]
theorem app_getD (D : List Nat) (k i : Nat) (h : i < D.length) : (D ++ List.replicate k 0).getD i 0 = D.getD i 0 := by
  rw [List.getD_eq_getElem?_getD, List.getD_eq_getElem?_getD, List.getElem?_append_left h]
theorem app_getD2 (D L : List Nat) (i n : Nat) (h : D.length = n) : (D ++ L).getD (n + i) 0 = L.getD i 0 := by
  rw [List.getD_eq_getElem?_getD, List.getD_eq_getElem?_getD, List.getElem?_append_right (by omega), h, Nat.add_sub_cancel_left]
set_option maxRecDepth 100000 in
set_option maxHeartbeats 2000000 in
theorem ecBytes_c {w : World} {DB : Nat} (D : List Nat) (ec n : Nat) (hn : D.length = n) (hn1 : 1 ≤ n) (hn9 : n ≤ 130) (h1 : 1 ≤ ec) (h30 : ec < 30) (hA : Blk w DB (D.map u8c) 5) (hD : ∀ y ∈ D, y < 256) :
    Calls Tryz.prog 118 #[slv DB n n, num ec] w fun e w' => (∃ B L, e = .returned (.tuple #[slv B ec ec, .nilIface]) ∧ Fine D L ec ∧ Blk w' B (L.map u8c) 5 ∧ w.heap.size ≤ B) ∧ Kept [] w w' := by
  have hni : (n : Int) ≤ 130 := by omega
  have hn1i : (1 : Int) ≤ n := by omega
  have h1i : (1 : Int) ≤ ec := by omega
  have h30i : (ec : Int) < 30 := by omega
  have HN := Lib.hid hn
  have HD := Lib.hid hD
  have HDL := Lib.hid (getD_lt256 hD)
  have hmk := mk_ints ((n : Int) + ec) ((n : Int) + ec) (n + ec) (n + ec) (by omega) (by omega) (by omega) (by omega)
  have hmk2 := mk_bytes (ec : Int) (ec : Int) ec ec rfl rfl (by omega) (by omega)
  obtain ⟨q, hq⟩ : ∃ q, D ++ List.replicate ec 0 = q := ⟨_, rfl⟩
  have HQL : Hid (q.length = n + ec) := Lib.hid (by rw [← hq]; simp [hn])
  have HQA : Hid (∀ i, i < n → q.getD i 0 = D.getD i 0) := Lib.hid (fun i hi => by rw [← hq]; exact app_getD _ _ _ (by omega))
  have HQM : Hid (mixed q n = q.map num) := Lib.hid (by rw [← hq]; exact mixed_tail0 D n ec hn)
  have HQ := Lib.hid hq
  clear hn hq hD
  go_enter Tryz.func118, Tryz.ntmps118
  go_wp2_with fail
  have HB0 : Blk (w.alloc (Obj.cells (Array.replicate (n + ec) (Value.int .i64 0)) 3)) w.heap.size (mixed q 0) 3 := Blk.of (by rw [mixed_zero q _ HQL.out]; simp) (Blk.newA w _ 3)
  have k0 : Kept [] w (w.alloc (Obj.cells (Array.replicate (n + ec) (Value.int .i64 0)) 3)) := (Kept.refl _ _).alloc _
  have s0 : (w.alloc (Obj.cells (Array.replicate (n + ec) (Value.int .i64 0)) 3)).heap.size = w.heap.size + 1 := by simp
  generalize w.alloc (Obj.cells (Array.replicate (n + ec) (Value.int .i64 0)) 3) = W at HB0 k0 s0 ⊢
  obtain ⟨A, hAe⟩ : ∃ A, w.heap.size = A := ⟨_, rfl⟩
  rw [hAe] at HB0 s0 ⊢
  have HAE := Lib.hid hAe
  have S0 := Lib.hid s0
  clear hmk hAe s0
  go_loopw [8] (fun i wr => ∃ k : Nat, k ≤ n ∧ i = num k ∧ Kept [] w wr ∧ Blk wr A (mixed q k) 3 ∧ Hid (wr.heap.size = A + 1)) (fun i _ => n - (intOf i).toNat)
  case atStart => exact ⟨0, by omega, rfl, k0, HB0, S0⟩
  case round =>
    obtain ⟨k, hk, rfl, hkr, hbr, HS⟩ := hrel
    have hki : (k : Int) ≤ n := by omega
    by_cases hlt : k < n
    · have hlti : (k : Int) < n := by omega
      have g1 := (hkr.blk hA (by simp)).at (u8_get D k (by rw [HN.out]; exact hlt))
      have hx9 := HDL.out k
      have HQK := Lib.hid (HQA.out k hlt)
      generalize D.getD k 0 = x at g1 hx9 HQK
      have ha := i64_and255 x hx9
      have hxi : (x : Int) < 256 := by omega
      have g2 := hbr.free k
      have g3 := hbr.at (mixed_at q k (by rw [HQL.out]; omega))
      unfold u8c at g1
      go_wp2_with fail
      go_roundw
      case rel =>
        refine ⟨k + 1, by omega, by go_num, hkr.setCell (.inr (by simp; have := HAE.out; omega)) _, ?_, Lib.hid (by rw [size_setCell]; exact HS.out)⟩
        rw [← mixed_set q k (by rw [HQL.out]; omega), HQK.out]; exact hbr.set k _
      case measure => simp [intOf]; omega
    · obtain rfl : k = n := by omega
      rw [HQM.out, ← HQ.out] at hbr
      have hAs := hbr.lt
      go_wp2_with fail
      refine (field_c wr).mono ?_
      rintro e w1 ⟨rfl, hg, k1, s1⟩
      have S1 := Lib.hid s1
      clear s1
      go_wp2_with fail
      refine (newRSE_c hg).mono ?_
      rintro e w2 ⟨⟨E, C, P, rfl, hE, hC, hP, hle, hlc⟩, k2⟩
      have hb2 := (k1.trans0 k2).blk hbr (by simp)
      have HG2 := Lib.hid (hg.kept0 k2)
      have hEs := hE.lt
      clear hg
      go_wp2_with fail
      refine (encode_c HG2.out hE hC hP (by have := S1.out; omega) D ec k HN.out hn1 hn9 h1 h30 hb2 HD.out hAs).mono ?_
      rintro e w3 ⟨rfl, ⟨L, hfine, hb3⟩, k3⟩
      have HF := Lib.hid hfine
      have k23 : Kept [] w w3 := ((hkr.trans0 k1).trans0 k2).trans k3 (by intro x hx hl; simp at hx; have := HAE.out; have := k1.size; have := hkr.size; omega)
      clear hfine
      go_wp2_with fail
      have HC0 : Blk (w3.alloc (Obj.cells (Array.replicate ec (Value.int .u8 0)) 5)) w3.heap.size (mixedB L 0) 5 := Blk.of (by rw [mixedB_zero L _ HF.out.len, List.toArray_replicate]; rfl) (Blk.newA w3 _ 5)
      have kc : Kept [] w (w3.alloc (Obj.cells (Array.replicate ec (Value.int .u8 0)) 5)) := k23.alloc _
      have hb4 : Blk (w3.alloc (Obj.cells (Array.replicate ec (Value.int .u8 0)) 5)) A ((D ++ L).map num) 3 := hb3.alloc _
      have hBs := k23.size
      have hA3 := hb3.lt
      generalize w3.alloc (Obj.cells (Array.replicate ec (Value.int .u8 0)) 5) = W3 at HC0 kc hb4 ⊢
      generalize w3.heap.size = B at HC0 hBs hA3 ⊢
      clear hmk2
      go_loopw [11] (fun i wz => ∃ j : Nat, j ≤ ec ∧ i = num j ∧ Kept [] w wz ∧ Blk wz B (mixedB L j) 5 ∧ Blk wz A ((D ++ L).map num) 3) (fun i _ => ec - (intOf i).toNat)
      case atStart => exact ⟨0, by omega, rfl, kc, HC0, hb4⟩
      case round =>
        obtain ⟨j, hj, rfl, hkz, hBz, hAz⟩ := hrel
        have hji : (j : Int) ≤ ec := by omega
        by_cases hjl : j < ec
        · have hjli : (j : Int) < ec := by omega
          have g1 := hAz.at (tab_get (D ++ L) (k + j) (by simp; rw [HN.out, HF.out.len]; omega))
          rw [app_getD2 D L j k HN.out] at g1
          have hx9 := getD_lt256 HF.out.lt j
          have HSET := Lib.hid (mixedB_set L j (by rw [HF.out.len]; exact hjl))
          generalize L.getD j 0 = x at g1 hx9 HSET
          have hxi : (x : Int) < 256 := by omega
          have hwr : IntKind.u8.wrap (x : Int) = (x : Int) := by rw [IntKind.wrap_u8]; omega
          have g2 := hBz.free j
          have g3 := hBz.at (mixedB_at L j (by rw [HF.out.len]; exact hjl))
          go_wp2_with fail
          go_roundw
          case rel =>
            refine ⟨j + 1, by omega, by go_num, hkz.setCell (.inr hBs) _, ?_, hAz.set_other (by simp; omega) _⟩
            rw [← HSET.out]; exact hBz.set j _
          case measure => simp [intOf]; omega
        · obtain rfl : j = ec := by omega
          have hbb : Blk wr B (L.map u8c) 5 := by rw [← mixedB_all, HF.out.len]; exact hBz
          go_wp2_with fail
          go_ret2
          exact ⟨⟨B, L, rfl, HF.out, hbb, hBs⟩, hkz⟩
end

section
theorem rep_arr2 (n : Nat) (z : Value) : (List.replicate n z).toArray = Array.replicate n z := by simp
set_option maxRecDepth 100000 in
set_option maxHeartbeats 4000000 in
theorem rsDecode_c {w : World} {F lo R C : Nat} (h : GF w F lo) (hR : Blk w R [ptv F] 237) (cs : List Nat) (ec n : Nat) (hn : cs.length = n) (hn1 : 1 ≤ n) (hn9 : n ≤ 200) (hC : Blk w C (cs.map num) 3) (hlt : ∀ x ∈ cs, x < 256) (hz : ∀ i, i < ec → evalP cs (gexp i) = 0) (h1 : 1 ≤ ec) (h30 : ec < 30) (hFC : F ≤ C) :
    Calls Tryz.prog 223 #[ptv R, slv C n n, num ec] w fun e w' => e = .returned .nilIface ∧ Kept [] w w' := by
  have h1i : (1 : Int) ≤ ec := by omega
  have h30i : (ec : Int) < 30 := by omega
  have HG := Lib.hid h
  have HR := Lib.hid hR
  have HC := Lib.hid hC
  have HN := Lib.hid hn
  have HL := Lib.hid hlt
  have HZ := Lib.hid hz
  have HNE : Hid (cs ≠ []) := Lib.hid (by intro h; subst h; simp at hn; omega)
  have r0 := hR.at (i := 0) rfl
  clear h hR hC hlt hz hn
  go_enter Tryz.func223, Tryz.ntmps223
  go_wp2_with fail
  refine (newPoly_n cs F n HC.out HNE.out (by rw [HN.out]; omega) HN.out hFC).mono ?_
  rintro e w1 ⟨rfl, hp1, hk1⟩
  obtain ⟨P, hP⟩ : ∃ P, w.heap.size = P := ⟨_, rfl⟩
  rw [hP] at hp1 ⊢
  have hmk := mk_ints (ec : Int) (ec : Int) ec ec rfl rfl (by omega) (by omega) w1
  rw [rep_arr2] at hmk
  have hbA : Blk (w1.alloc (.cells (Array.replicate ec (Value.int .i64 0)) 3)) w1.heap.size (List.replicate ec (num 0)) 3 := by
    have := Blk.new w1 (List.replicate ec (num 0)) 3
    rw [rep_arr2] at this; exact this
  have hkA : Kept [] w1 (w1.alloc (.cells (Array.replicate ec (Value.int .i64 0)) 3)) := (Kept.refl _ _).alloc _
  obtain ⟨Y, hY⟩ : ∃ Y, w1.heap.size = Y := ⟨_, rfl⟩
  have HP1 := Lib.hid hp1
  have HK0 := Lib.hid hk1
  have HK1 := Lib.hid hkA
  have hYs : w1.heap.size ≤ Y := by omega
  have HYS := Lib.hid hYs
  rw [hY] at hmk hbA
  have HB1 := Lib.hid hbA
  clear hp1 hk1 hbA hkA hP
  obtain ⟨w2, hw2⟩ : ∃ v, (w1.alloc (.cells (Array.replicate ec (Value.int .i64 0)) 3)) = v := ⟨_, rfl⟩
  rw [hw2] at hmk HK1 HB1
  clear hw2 hY hYs r0
  go_wp2_with fail
  clear hmk
  go_loopw [10, 11] (fun s10 s11 wr => ∃ k : Nat, k ≤ ec ∧ s10 = .bool true ∧ s11 = num k ∧ Hid (Kept [] w1 wr ∧ Blk wr Y (List.replicate ec (num 0)) 3)) (fun _ i _ => ec - (intOf i).toNat)
  case atStart => exact ⟨0, by omega, rfl, rfl, Lib.hid ⟨HK1.out, HB1.out⟩⟩
  case round =>
    obtain ⟨k, hk, rfl, rfl, hst⟩ := hrel
    have hki : (k : Int) ≤ ec := by omega
    by_cases hlt : k < ec
    · have hlti : (k : Int) < ec := by omega
      have HKV := Lib.hid hst.out.1
      have HBW := Lib.hid hst.out.2
      have HPW := Lib.hid (HP1.out.kept HKV.out)
      have HKW := Lib.hid (HK0.out.trans0 HKV.out)
      have HGW := Lib.hid (HG.out.kept0 HKW.out)
      have r0 := (HKW.out.blk HR.out (by simp)).at (i := 0) rfl
      have HEV : Hid (evalP (strip cs) (gexp k) = 0) := Lib.hid (by rw [evalP_strip]; exact HZ.out k hlt)
      have hge := exp_bd k (by omega)
      have HGE := Lib.hid hge
      obtain ⟨q, hq⟩ : ∃ q : Nat, ec - 1 - k = q := ⟨_, rfl⟩
      have hqi : (ec : Int) - 1 - (k : Int) = (q : Int) := by omega
      have hql : q < ec := by omega
      clear hst hq hge
      go_upto_region 9 with fail
      go_cut [12] from 43 to 56 (fun v wx => v = num 0 ∧ Hid (Kept [] wr wx))
      case first =>
        go_region_with (first
          | (go_at_call 209; refine (base_c (HGW.out.kept0 ((Kept.refl [] _).drew))).mono ?_; rintro q wx ⟨rfl, rfl⟩)
          | (go_at_call 208; refine (exp_c (HGW.out.kept0 ((Kept.refl [] _).drew)) _ k (by rw [IntKind.wrap_i64]; omega) (by omega)).mono ?_; rintro q wx ⟨rfl, rfl⟩)
          | (go_at_call 257; refine (eval_c (HGW.out.kept0 ((Kept.refl [] _).drew)) (HPW.out.kept ((Kept.refl [] _).drew)) (by have := strip_length cs; have := HN.out; omega) (strip_lt HL.out) (gexp k) HGE.out.1 HGE.out.2).mono ?_; rw [HEV.out]; rintro q wx ⟨rfl, hkx⟩))
        all_goals
          go_wp2_with fail
          go_meet
          exact ⟨rfl, Lib.hid (((Kept.refl [] _).drew).trans0 hkx)⟩
      case rest =>
        obtain ⟨rfl, hkc⟩ := hcut
        have hkc := hkc.out
        have HBC := Lib.hid (hkc.blk HBW.out (by simp))
        have HKC := Lib.hid (HKV.out.trans0 hkc)
        have g2 := HBC.out.free q
        have g3 := HBC.out.at (i := q) (v := num 0) (by rw [List.getElem?_replicate, if_pos hql])
        have hqli : (q : Int) < ec := by omega
        clear hkc r0
        go_wp2_with fail
        go_roundw
        case rel =>
          refine ⟨k + 1, by omega, rfl, by go_num, Lib.hid ⟨HKC.out.setCell (.inr HYS.out) _, ?_⟩⟩
          have := HBC.out.set q (num 0)
          rw [List.set_replicate_self] at this
          exact this
        case measure => simp [intOf]; omega
    · obtain rfl : k = ec := by omega
      have HKW := Lib.hid (HK0.out.trans0 hst.out.1)
      clear hst
      go_wp2_with fail
      go_ret
      exact ⟨rfl, HKW.out⟩
end

section
theorem u8_and255 (p : Nat) (hp : p < 256) : bits .and .u8 (p : Int) 255 = (p : Int) := by
  have h := (bits_nat .u8 8 (by decide) (fun n h0 h1 => by rw [IntKind.wrap_u8]; omega) p 255 (by omega) (by decide)).1
  rw [show p &&& 255 = p from by rw [Nat.and_two_pow_sub_one_eq_mod p 8]; omega] at h; exact h
theorem set_same (l : List Value) (i : Nat) (v : Value) (h : l[i]? = some v) : l.set i v = l := by
  apply List.ext_getElem?
  intro j
  rw [List.getElem?_set]
  split
  · rename_i e; subst e
    split
    · exact h.symm
    · rename_i hn; rw [List.getElem?_eq_none (by omega)] at h; cases h
  · rfl
theorem Kept.keptT' {w w' : World} {CW b : Nat} {us vs : List Value} {T U : TypeId} (h : Kept [CW] w w') (hb : Blk w b vs T) (hc : Blk w CW us U) (hne : T ≠ U) : Blk w' b vs T :=
  hb.keptT h (fun x hx => by simp at hx; subst hx; exact ⟨_, hc⟩) hne
set_option maxRecDepth 100000 in
set_option maxHeartbeats 4000000 in
theorem correct_c {w : World} {F lo R DE CW : Nat} (h : GF w F lo) (hR : Blk w R [ptv F] 237) (hD : Blk w DE [ptv R] 180) (cs : List Nat) (nd ec n : Nat) (hn : cs.length = n) (hne : n = nd + ec) (hn9 : n ≤ 200) (hC : Blk w CW (cs.map u8c) 5) (hlt : ∀ x ∈ cs, x < 256) (hz : ∀ i, i < ec → evalP cs (gexp i) = 0) (h1 : 1 ≤ ec) (h30 : ec < 30) (hlo : CW < lo ∨ lo + 7 ≤ CW) :
    Calls Tryz.prog 198 #[ptv DE, slv CW n n, num nd] w fun e w' => e = .returned .nilIface ∧ Kept [CW] w w' ∧ Blk w' CW (cs.map u8c) 5 := by
  have h1i : (1 : Int) ≤ ec := by omega
  have n9i : (n : Int) ≤ 200 := by omega
  have n1i : (1 : Int) ≤ n := by omega
  have ndn : (nd : Int) ≤ n := by omega
  have hsub : (n : Int) - nd = (ec : Int) := by omega
  have HG := Lib.hid h
  have HR := Lib.hid hR
  have HD := Lib.hid hD
  have HC := Lib.hid hC
  have HN := Lib.hid hn
  have HL := Lib.hid hlt
  have HZ := Lib.hid hz
  have HDL := Lib.hid (getD_lt256 hlt)
  have HFW : Hid (F < w.heap.size) := Lib.hid (by have := h.self.lt; have := h.at_; omega)
  have hmk := mk_ints (n : Int) (n : Int) n n rfl rfl (by omega) (by omega) w
  rw [rep_arr2] at hmk
  have hb0 : Blk (w.alloc (Obj.cells (Array.replicate n (Value.int .i64 0)) 3)) w.heap.size (mixed cs 0) 3 := Blk.of (by rw [mixed_zero cs _ hn]; simp) (Blk.newA w _ 3)
  have hk0 : Kept [CW] w (w.alloc (Obj.cells (Array.replicate n (Value.int .i64 0)) 3)) := (Kept.refl _ _).alloc _
  have hc0 := hC.alloc (Obj.cells (Array.replicate n (Value.int .i64 0)) 3)
  obtain ⟨A, hA⟩ : ∃ A, w.heap.size = A := ⟨_, rfl⟩
  have HA := Lib.hid hA
  have HCA : Hid (CW < A) := Lib.hid (by have := hC.lt; omega)
  rw [hA] at hmk hb0
  have HB0 := Lib.hid hb0
  have HK0 := Lib.hid hk0
  have HC0 := Lib.hid hc0
  obtain ⟨w2, hw2⟩ : ∃ v, (w.alloc (Obj.cells (Array.replicate n (Value.int .i64 0)) 3)) = v := ⟨_, rfl⟩
  rw [hw2] at hmk HB0 HK0 HC0
  have HNE := Lib.hid hne
  have jn2 : nd ≤ n := by omega
  have kn1 : 1 ≤ n := by omega
  clear hne
  clear hw2 hb0 hk0 hc0 hA h hR hD hC hlt hz hn
  go_enter Tryz.func198, Tryz.ntmps198
  go_wp2_with fail
  clear hmk
  go_loopw [9] (fun i wr => ∃ k : Nat, k ≤ n ∧ i = num k ∧ Hid (Kept [CW] w wr ∧ Blk wr A (mixed cs k) 3 ∧ Blk wr CW (cs.map u8c) 5)) (fun i _ => n - (intOf i).toNat)
  case atStart => exact ⟨0, by omega, rfl, Lib.hid ⟨HK0.out, HB0.out, HC0.out⟩⟩
  case round =>
    obtain ⟨k, hk, rfl, hst⟩ := hrel
    have hki : (k : Int) ≤ n := by omega
    by_cases hlt : k < n
    · have hlti : (k : Int) < n := by omega
      have HKR := Lib.hid hst.out.1
      have HBR := Lib.hid hst.out.2.1
      have HCR := Lib.hid hst.out.2.2
      have g1 := HCR.out.at (u8_get cs k (by rw [HN.out]; exact hlt))
      have hx9 := HDL.out k
      have HSET := Lib.hid (mixed_set cs k (by rw [HN.out]; exact hlt))
      generalize cs.getD k 0 = x at g1 hx9 HSET
      have ha := u8_and255 x hx9
      have hxi : (x : Int) < 256 := by omega
      have g2 := HBR.out.free k
      have g3 := HBR.out.at (mixed_at cs k (by rw [HN.out]; omega))
      clear hst
      unfold u8c at g1
      go_wp2_with fail
      go_roundw
      case rel =>
        refine ⟨k + 1, by omega, by go_num, Lib.hid ⟨HKR.out.setCell (.inr (by rw [HA.out]; exact Nat.le_refl _)) _, ?_, HCR.out.set_other (by have := HCA.out; simp; omega) _⟩⟩
        rw [← HSET.out]; exact HBR.out.set k _
      case measure => simp [intOf]; omega
    · obtain rfl : k = n := by omega
      have HKR := Lib.hid hst.out.1
      have hba := hst.out.2.1
      rw [show mixed cs k = cs.map num from by rw [← HN.out]; exact mixed_all cs] at hba
      have HBR := Lib.hid hba
      have HCR := Lib.hid hst.out.2.2
      have HGR := Lib.hid (HG.out.kept HKR.out (by intro x hx; simp at hx; subst hx; exact hlo))
      have HRR : Hid (Blk wr R [ptv F] 237) := Lib.hid (HKR.out.keptT' HR.out HC.out (by decide))
      have d0 := (HKR.out.keptT' HD.out HC.out (by decide)).at (i := 0) rfl
      clear hst hba
      go_wp2_with fail
      refine (rsDecode_c HGR.out HRR.out cs ec k HN.out kn1 hn9 HBR.out HL.out HZ.out h1 h30 (by have := HFW.out; have := HA.out; omega)).mono ?_
      rintro e w3 ⟨rfl, hk3⟩
      have HK3 := Lib.hid (HKR.out.trans0 hk3)
      have HB3 := Lib.hid (hk3.blk HBR.out (by simp))
      have HC3 := Lib.hid (hk3.blk HCR.out (by simp))
      clear hk3 d0
      go_wp2_with fail
      go_loopw [11] (fun i wz => ∃ j : Nat, j ≤ nd ∧ i = num j ∧ Hid (Kept [CW] w wz ∧ Blk wz A (cs.map num) 3 ∧ Blk wz CW (cs.map u8c) 5)) (fun i _ => nd - (intOf i).toNat)
      case atStart => exact ⟨0, by omega, rfl, Lib.hid ⟨HK3.out, HB3.out, HC3.out⟩⟩
      case round =>
        obtain ⟨j, hj, rfl, hst⟩ := hrel
        have hji : (j : Int) ≤ nd := by omega
        by_cases hjl : j < nd
        · have hjli : (j : Int) < nd := by omega
          have HKZ := Lib.hid hst.out.1
          have HBZ := Lib.hid hst.out.2.1
          have HCZ := Lib.hid hst.out.2.2
          have jn : j < cs.length := by rw [HN.out]; omega
          have g1 := HBZ.out.at (tab_get cs j jn)
          have hgc := u8_get cs j jn
          have hx9 := HDL.out j
          generalize cs.getD j 0 = x at g1 hx9 hgc
          have HGC := Lib.hid hgc
          have hxi : (x : Int) < 256 := by omega
          have hwr : IntKind.u8.wrap (x : Int) = (x : Int) := by rw [IntKind.wrap_u8]; omega
          have g2 := HCZ.out.free j
          have g3 := HCZ.out.at hgc
          unfold u8c at g3
          clear hst hgc jn
          go_wp2_with fail
          go_roundw
          case rel =>
            refine ⟨j + 1, by omega, by go_num, Lib.hid ⟨HKZ.out.setCell (.inl (by simp)) _, HBZ.out.set_other (by have := HCA.out; simp; omega) _, ?_⟩⟩
            have := HCZ.out.set j (u8c x)
            rw [set_same _ _ _ HGC.out] at this
            exact this
          case measure => simp [intOf]; omega
        · obtain rfl : j = nd := by omega
          have HKZ := Lib.hid hst.out.1
          have HCZ := Lib.hid hst.out.2.2
          clear hst
          go_wp2_with fail
          go_ret
          exact ⟨rfl, HKZ.out, HCZ.out⟩
end
end Go.Proofs.YtplpafbkalkchaaGreatDoor
