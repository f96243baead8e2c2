/- Walks: the data and the words of error correction of all blocks, in turns. -/
import Derived.Test.YtplpafbkalkchaaGreatDoorW15
namespace Go.Proofs.YtplpafbkalkchaaGreatDoor
open Go Go.RowKit Go.Proofs
set_option linter.all false

section
theorem toBytes_at {w : World} {B C A : Nat} {ws : List Nat} {bs : List Bool} (h : BA w B C ws bs) (n : Nat) (hA : Blk w A (List.replicate n (Value.int .u8 0)) 5) (x : Int) (o : Nat) (hx : x = o) (hr : o + 8 * n ≤ bs.length) (n1 : B ≠ A) (n2 : C ≠ A) :
    Calls Tryz.prog 117 #[ptv B, .int .i64 x, slv A n n, .int .i64 0, .int .i64 (n : Int)] w fun e w' => e = .returned (.tuple #[]) ∧ Blk w' A ((bytesAt bs o n).map u8c) 5 ∧ Kept [A] w w' :=
  toBytes_c w B C A ws bs h n n _ hA (by simp) x o hx hr n1 n2
theorem maxLens_ge (nT nD nB : Nat) : ∀ n i, i < n → dataLen nT nD nB i ≤ maxLens nT nD nB n := by
  intro n
  induction n with
  | zero => intro i h; omega
  | succ n ih =>
    intro i h
    unfold maxLens
    rcases Nat.lt_or_ge i n with h2 | h2
    · have := ih i h2; omega
    · have : i = n := by omega
      subst this; omega
/-- What stands in the world behind i blocks. -/
structure Part (w wr : World) (bs : List Bool) (nT nD nB ec i : Nat) (v : Value) (ps : List Nat) (rows : List (List Nat × List Nat)) : Prop where
  kept : Kept [] w wr
  own : GR wr w.heap.size 214 v (ps.map ptv)
  pairs : Pairs wr ps rows
  rows : RowsFor bs nT nD nB ec i rows
theorem Part.next {w wr w4 w7 : World} {bs : List Bool} {nT nD nB ec i : Nat} {v v' : Value} {ps : List Nat} {rows : List (List Nat × List Nat)} (h : Part w wr bs nT nD nB ec i v ps rows) (k14 : Kept [] wr w4) {p A EB n : Nat} {L : List Nat}
    (hpb : Blk w4 p [slv A n n, slv EB ec ec] 254) (hA : Blk w4 A ((blockData bs nT nD nB i).map u8c) 5) (hE : Blk w4 EB (L.map u8c) 5) (hn : (blockData bs nT nD nB i).length = n) (hf : Fine (blockData bs nT nD nB i) L ec)
    (hown : GR (w4.alloc (.cells #[ptv p] 214)) w.heap.size 214 v (ps.map ptv)) (hgr : GR w7 w.heap.size 214 v' (ps.map ptv ++ [ptv p])) (hk7 : Kept v.ownBlock.toList (w4.alloc (.cells #[ptv p] 214)) w7) :
    Part w w7 bs nT nD nB ec (i + 1) v' (ps ++ [p]) (rows ++ [(blockData bs nT nD nB i, L)]) := by
  have kb : Kept [] w4 (w4.alloc (.cells #[ptv p] 214)) := (Kept.refl _ _).alloc _
  have k5 := k14.trans0 kb
  have hty := hown.ownType
  refine ⟨(h.kept.trans0 k5).trans hk7 (fun x hx hl => by have := (hty x hx).1; omega), by rw [List.map_append]; exact hgr, ?_, h.rows.snoc hf⟩
  refine ((h.pairs.kept k5 (by simp)).kept hk7 (fun x hx => .inl (hty x hx).2)).snoc ?_
  have hb : BP (w4.alloc (.cells #[ptv p] 214)) p (blockData bs nT nD nB i, L) := ⟨A, EB, by simp only; rw [hn, hf.len]; exact hpb.alloc _, hA.alloc _, hE.alloc _⟩
  exact hb.kept hk7 (fun x hx => .inl (hty x hx).2)
set_option maxRecDepth 100000 in
set_option maxHeartbeats 8000000 in
theorem interleave_c {w : World} {B C : Nat} {ws : List Nat} {bs : List Bool} (h : BA w B C ws bs) (nT nD nB ec : Nat) (hB : nB = 1 ∨ nB = 2 ∨ nB = 4 ∨ nB = 5 ∨ nB = 6) (hT : nT ≤ 300) (hD : nD ≤ nT) (hBD : nB ≤ nD)
    (hbs : bs.length = 8 * nD) (hec : nT / nB - nD / nB = ec) (hec1 : 1 ≤ ec) (hec30 : ec < 30) (hoff : offs nT nD nB nB = nD) (hmax : maxLens nT nD nB nB ≤ 130) (htot : nD + nB * ec = nT) :
    Calls Tryz.prog 57 #[ptv B, num nT, num nD, num nB] w fun e w' => (∃ RB RC ws' rows, e = .returned (.tuple #[ptv RB, .nilIface]) ∧ RowsFor bs nT nD nB ec nB rows ∧
      BA w' RB RC ws' (byteBits (ilv (rows.map (·.1)) (maxLens nT nD nB nB) ++ ilv (rows.map (·.2)) ec)) ∧ w.heap.size ≤ RB ∧ w.heap.size ≤ RC) ∧ Kept [] w w' := by
  have hTi : (nT : Int) ≤ 300 := by omega
  have hDi : (nD : Int) ≤ nT := by omega
  have hBi : (nB : Int) ≤ 6 := by omega
  have hB1i : (1 : Int) ≤ nB := by omega
  have hmk0 := mkslice (P := Tryz.prog) (t := 208) Tryz.underlying208 info214 rfl (by omega) 0 0 0 0 rfl rfl (by omega) (by omega)
  have HBS := Lib.hid hbs
  have HEC := Lib.hid hec
  have HOFF := Lib.hid hoff
  have HMAX := Lib.hid hmax
  have HTOT := Lib.hid htot
  have HH := Lib.hid h
  clear hbs hec hoff hmax htot
  have hsb : (bs.length + 7) / 8 = nD := by have := HBS.out; omega
  have HSB := Lib.hid hsb
  clear hsb
  go_enter Tryz.func57, Tryz.ntmps57
  go_wp2_with fail
  refine (sizeInBytes_c w B C ws bs HH.out).mono ?_
  rintro e w1 ⟨rfl, rfl⟩
  rw [HSB.out]
  go_wp2_with fail
  have k0 : Kept [] w (w.alloc (Obj.cells #[] 214)) := (Kept.refl _ _).alloc _
  have hP0 : Hid (Part w (w.alloc (Obj.cells #[] 214)) bs nT nD nB ec 0 (slv w.heap.size 0 0) [] []) := Lib.hid ⟨k0, GR.whole (Nat.le_refl _) (Blk.new w [] 214) rfl (by omega), ⟨rfl, by intro j p r hp; simp at hp⟩, ⟨rfl, by intro j r hr; simp at hr⟩⟩
  go_loopw [10, 11, 12, 13, 14] (fun s10 s11 s12 s13 s14 wr => ∃ (i me : Nat) (v : Value) (ps : List Nat) (rows : List (List Nat × List Nat)), i ≤ nB ∧ s10 = num (offs nT nD nB i) ∧ s11 = num (maxLens nT nD nB i) ∧ s12 = num me ∧ v = s13 ∧ s14 = num i ∧ Hid (me = if i = 0 then 0 else ec) ∧ Hid (Part w wr bs nT nD nB ec i v ps rows)) (fun _ _ _ _ i _ => nB - (intOf i).toNat)
  case atStart => exact ⟨0, 0, _, [], [], by omega, rfl, rfl, rfl, rfl, rfl, Lib.hid rfl, hP0⟩
  case round =>
    obtain ⟨i, me, v, ps, rows, hi, rfl, rfl, rfl, rfl, rfl, HME, HP⟩ := hrel
    have hii : (i : Int) ≤ nB := by omega
    by_cases hlt : i < nB
    · have hlti : (i : Int) < nB := by omega
      obtain ⟨n, hn⟩ : ∃ n, dataLen nT nD nB i = n := ⟨_, rfl⟩
      have hn1 := dataLen_pos nT nD nB i hBD (by omega)
      have hn9 := Nat.le_trans (maxLens_ge nT nD nB nB i hlt) HMAX.out
      have ho := offs_mono nT nD nB (i + 1) nB (by omega)
      rw [HOFF.out] at ho
      have HOS : Hid (offs nT nD nB (i + 1) = offs nT nD nB i + dataLen nT nD nB i) := Lib.hid rfl
      have HMS : Hid (maxLens nT nD nB (i + 1) = max (maxLens nT nD nB i) (dataLen nT nD nB i)) := Lib.hid rfl
      have hml : maxLens nT nD nB i ≤ maxLens nT nD nB nB ∨ True := .inr trivial
      have HBD0 : Hid (blockData bs nT nD nB i = bytesAt bs (8 * offs nT nD nB i) (dataLen nT nD nB i)) := Lib.hid rfl
      rw [HOS.out] at ho
      rw [hn] at hn1 hn9 ho HOS HMS HBD0
      have HN := Lib.hid hn
      clear hn hml
      obtain ⟨o, hoo⟩ : ∃ o, offs nT nD nB i = o := ⟨_, rfl⟩
      obtain ⟨M, hM⟩ : ∃ M, maxLens nT nD nB i = M := ⟨_, rfl⟩
      rw [hoo] at ho HOS HBD0 ⊢
      rw [hM] at HMS ⊢
      have HOO := Lib.hid hoo
      clear hoo hM
      have hoi : (o : Int) ≤ 300 := by omega
      have hni : (n : Int) ≤ 130 := by omega
      have hn1i : (1 : Int) ≤ n := by omega
      have h1i : (1 : Int) ≤ ec := by omega
      have h30i : (ec : Int) < 30 := by omega
      have hmkb := mk_bytes (n : Int) (n : Int) n n rfl rfl (by omega) (by omega)
      clear hmk0
      go_wp2_with fail
      refine (blockLen_c nT nD nB i hB hT hD hlt _).mono ?_
      rintro e wx ⟨rfl, rfl⟩
      rw [HEC.out, HN.out]
      go_wp2_with fail
      have HA0 : Blk (wr.alloc (Obj.cells (Array.replicate n (Value.int .u8 0)) 5)) wr.heap.size (List.replicate n (Value.int .u8 0)) 5 := Blk.of (by simp) (Blk.newA wr _ 5)
      have k1 : Kept [] wr (wr.alloc (Obj.cells (Array.replicate n (Value.int .u8 0)) 5)) := (Kept.refl _ _).alloc _
      have hBA := HH.out.kept (HP.out.kept.trans0 k1) (by simp) (by simp)
      have hBl := HH.out.st.lt
      have hCl := HH.out.ar.lt
      have hsz := HP.out.kept.size
      generalize wr.alloc (Obj.cells (Array.replicate n (Value.int .u8 0)) 5) = W at HA0 k1 hBA ⊢
      have HAl := Lib.hid (show wr.heap.size ≤ wr.heap.size from Nat.le_refl _)
      refine (toBytes_at hBA n HA0 _ (8 * o) (by omega) (by rw [HBS.out]; omega) (by omega) (by omega)).mono ?_
      rintro e w2 ⟨rfl, hA2, k2⟩
      rw [← HBD0.out] at hA2
      have k12 : Kept [] wr w2 := k1.trans k2 (by intro x hx hl; simp at hx; omega)
      have hDl : (blockData bs nT nD nB i).length = n := by rw [HBD0.out]; exact bytesAt_len _ _ _
      have HDL := Lib.hid hDl
      have HDB : Hid (∀ y ∈ blockData bs nT nD nB i, y < 256) := Lib.hid (by rw [HBD0.out]; exact bytesAt_lt _ _ _)
      clear hDl hBA
      go_wp2_with fail
      refine (ecBytes_c (blockData bs nT nD nB i) ec n HDL.out hn1 (by omega) hec1 hec30 hA2 HDB.out).mono ?_
      rintro e w3 ⟨⟨EB, L, rfl, hfine, hEB, hEBs⟩, k3⟩
      have HF := Lib.hid hfine
      have hA3 := k3.blk hA2 (by simp)
      have k13 := k12.trans0 k3
      clear hfine hA2
      have hwA : ∃ A, wr.heap.size = A := ⟨_, rfl⟩
      obtain ⟨A, hwA⟩ := hwA
      rw [hwA] at hA3 ⊢
      have HWA := Lib.hid hwA
      clear hwA
      go_wp2_with fail
      refine (newPair_c (slv A n n) (slv EB ec ec) w3 rfl rfl _ _ _ _ _ _ rfl rfl).mono ?_
      rintro e w4 ⟨rfl, hw4⟩
      have k14 : Kept [] wr w4 := by rw [← hw4]; exact k13.alloc _
      have hpb : Blk w4 w3.heap.size [slv A n n, slv EB ec ec] 254 := by rw [← hw4]; exact Blk.new w3 _ 254
      have hA4 : Blk w4 A ((blockData bs nT nD nB i).map u8c) 5 := by rw [← hw4]; exact hA3.alloc _
      have hE4 : Blk w4 EB (L.map u8c) 5 := by rw [← hw4]; exact hEB.alloc _
      have hwr4 := k14.size
      clear hw4 hA3 hEB k13 k12 k3
      generalize w3.heap.size = p at hpb ⊢
      have kb : Kept [] w4 (w4.alloc (.cells #[ptv p] 214)) := (Kept.refl _ _).alloc _
      have hAA : Hid ((w4.alloc (.cells #[ptv p] 214)).cell? ⟨w4.heap.size, 0, none⟩ = some (ptv p)) := Lib.hid ((Blk.new w4 [ptv p] 214).at (i := 0) rfl)
      have hB6 : Hid (w.heap.size ≤ (w4.alloc (.cells #[ptv p] 214)).heap.size) := Lib.hid (by rw [World.size_alloc]; have := HWA.out; omega)
      have hown : Hid (GR (w4.alloc (.cells #[ptv p] 214)) w.heap.size 214 v (ps.map ptv)) := Lib.hid ((HP.out.own.keeps0 k14).keeps0 kb)
      have hpl : (ps.map ptv).length ≤ 100000 := by
        have h1 : ps.length = rows.length := HP.out.pairs.1
        have h2 : rows.length = i := HP.out.rows.1
        rw [List.length_map]; omega
      go_wp2_with (at_builtin; refine app_one rfl _ _ 208 rfl 214 (.pointer none) 8 Tryz.underlying208 info214 rfl (by omega) w.heap.size v (ptv p) (ps.map ptv) rfl hown.out w4.heap.size rfl hAA.out rfl hpl hB6.out ?_; intro v' w7 hgr hk7)
      all_goals
        go_roundw
        case rel =>
          have hpt := HP.out.next k14 hpb hA4 hE4 HDL.out HF.out hown.out hgr hk7
          have hme := HME.out
          refine ⟨i + 1, _, v', ps ++ [p], _, by omega, by rw [HOS.out]; go_num, ?_, rfl, rfl, by go_num, Lib.hid ?_, Lib.hid hpt⟩
          · rw [HMS.out]; show Value.int .i64 _ = Value.int .i64 _; congr 1; omega
          · rw [if_neg (by omega)]
            all_goals (split at hme <;> omega)
        case measure => simp [intOf]; omega
    · obtain rfl : i = nB := by omega
      rw [HOFF.out]
      have hnb : i ≠ 0 := by omega
      have hme : me = ec := by have := HME.out; rw [if_neg hnb] at this; exact this
      rw [hme]
      clear hme hnb hmk0 HME
      obtain ⟨M, hM⟩ : ∃ M, maxLens nT nD i i = M := ⟨_, rfl⟩
      have hM9 := HMAX.out
      rw [hM] at hM9 ⊢
      have HMM := Lib.hid hM
      clear hM
      have hMi : (M : Int) ≤ 130 := by omega
      have h30i : (ec : Int) < 30 := by omega
      have hps : ps.map ptv ≠ [] := by
        have h1 : ps.length = rows.length := HP.out.pairs.1
        have h2 : rows.length = i := HP.out.rows.1
        intro h; rw [List.map_eq_nil_iff] at h; rw [h] at h1; simp at h1; omega
      obtain ⟨g, rest, rfl, hgB, hgb, hgm⟩ := HP.out.own.open hps
      have hpl : (ps.map ptv).length = i := by
        have h1 : ps.length = rows.length := HP.out.pairs.1
        have h2 : rows.length = i := HP.out.rows.1
        rw [List.length_map]; omega
      rw [hpl]
      have HPL := Lib.hid hpl
      clear hpl hps
      go_wp2_with fail
      refine (NewEmpty_c wr).mono ?_
      rintro e w1 ⟨rfl, hba, kn, hsn⟩
      have HSN := Lib.hid hsn
      clear hsn
      obtain ⟨RB, hRB⟩ : ∃ RB, wr.heap.size + 1 = RB := ⟨_, rfl⟩
      obtain ⟨RC, hRC⟩ : ∃ RC, wr.heap.size = RC := ⟨_, rfl⟩
      have hACC : ∀ W, Kept [RB, RC] w1 W → ∀ j, j < i → ∃ (p : Nat) (r : List Nat × List Nat), rows[j]? = some r ∧ W.cell? ⟨g, j, none⟩ = some (ptv p) ∧ BP W p r := by
        intro W hW j hj
        have h1 : ps.length = rows.length := HP.out.pairs.1
        have h2 : rows.length = i := HP.out.rows.1
        obtain ⟨p, hp⟩ : ∃ p, ps[j]? = some p := ⟨_, List.getElem?_eq_getElem (by omega)⟩
        obtain ⟨r, hr⟩ : ∃ r, rows[j]? = some r := ⟨_, List.getElem?_eq_getElem (by omega)⟩
        have hgl := hgb.lt
        have hb := kn.blk hgb (by simp)
        have hb2 := hW.blk hb (by simp; omega)
        have hk : Kept [RB, RC] wr W := (kn.trans hW (by intro x hx hl; simp at hx; omega)).mono (by simp)
        refine ⟨p, r, hr, hb2.at (by rw [List.getElem?_append_left (by rw [List.length_map]; omega), List.getElem?_map, hp]; rfl), (HP.out.pairs.2 j p r hp hr).kept hk (fun x hx => .inr (by simp at hx; omega))⟩
      have HACC := Lib.hid hACC
      rw [hRB, hRC] at hba
      rw [hRB]
      have hRw : w.heap.size ≤ RC := by have := HP.out.kept.size; omega
      have HRR := Lib.hid (And.intro hRB hRC)
      clear hRB hRC hACC
      have HLEN : Hid (∀ (j : Nat) (r : List Nat × List Nat), rows[j]? = some r → r.1.length ≤ 131 ∧ r.2.length ≤ 131 ∧ (∀ x ∈ r.1, x < 256) ∧ ∀ x ∈ r.2, x < 256) := Lib.hid (by
        intro j r hr
        have hj : j < i := by
          rcases Nat.lt_or_ge j rows.length with h | h
          · rw [HP.out.rows.1] at h; exact h
          · rw [List.getElem?_eq_none h] at hr; cases hr
        obtain ⟨e1, e2⟩ := HP.out.rows.2 j r hr
        refine ⟨?_, by rw [e2.len]; omega, ?_, e2.lt⟩
        · rw [e1]; unfold blockData; rw [bytesAt_len]
          have := maxLens_ge nT nD i i j hj
          have := HMAX.out; omega
        · rw [e1]; exact bytesAt_lt _ _ _)
      have H1L : Hid (∀ r ∈ rows.map (·.1), r.length ≤ 131) := Lib.hid (by
        intro r hr; rw [List.mem_map] at hr; obtain ⟨q, hq, rfl⟩ := hr
        obtain ⟨j, hj⟩ := List.mem_iff_getElem?.1 hq
        exact (HLEN.out j q hj).1)
      have H2L : Hid (∀ r ∈ rows.map (·.2), r.length ≤ 131) := Lib.hid (by
        intro r hr; rw [List.mem_map] at hr; obtain ⟨q, hq, rfl⟩ := hr
        obtain ⟨j, hj⟩ := List.mem_iff_getElem?.1 hq
        exact (HLEN.out j q hj).2.1)
      have HSUM : Hid ((ilv (rows.map (·.1)) M).length = nD ∧ (ilv (rows.map (·.2)) ec).length = i * ec) := Lib.hid (by
        obtain ⟨s1, s2⟩ := HP.out.rows.sums
        refine ⟨?_, ?_⟩
        · rw [ilv_full, s1, HOFF.out]
          intro r hr; rw [List.mem_map] at hr; obtain ⟨q, hq, rfl⟩ := hr
          obtain ⟨j, hj⟩ := List.mem_iff_getElem?.1 hq
          have hji : j < i := by
            rcases Nat.lt_or_ge j rows.length with h | h
            · rw [HP.out.rows.1] at h; exact h
            · rw [List.getElem?_eq_none h] at hj; cases hj
          rw [(HP.out.rows.2 j q hj).1]; unfold blockData; rw [bytesAt_len]
          have := maxLens_ge nT nD i i j hji
          rw [HMM.out] at this; exact this
        · rw [ilv_full, s2]
          intro r hr; rw [List.mem_map] at hr; obtain ⟨q, hq, rfl⟩ := hr
          obtain ⟨j, hj⟩ := List.mem_iff_getElem?.1 hq
          rw [(HP.out.rows.2 j q hj).2.len]; exact Nat.le_refl _)
      have HPRE : Hid (([] : List Nat).length ≤ 5000) := Lib.hid (by simp)
      have HB0 : Hid (BAc RB RC (byteBits ([] ++ ilv (rows.map (·.1)) 0)) w1 w1) := Lib.hid (by have := BAc.start hba; simpa [ilv, byteBits] using this)
      go_wp2_with fail
      go_loopw [22] (fun s wr => ∃ k : Nat, k ≤ M ∧ s = num k ∧ Hid (BAc RB RC (byteBits ([] ++ ilv (rows.map (·.1)) k)) w1 wr)) (fun s _ => M - (intOf s).toNat)
      case atStart => exact ⟨0, by omega, rfl, HB0⟩
      case round =>
        obtain ⟨k, hk, rfl, HB⟩ := hrel
        have hki : (k : Int) ≤ M := by omega
        by_cases hkl : k < M
        · have hkli : (k : Int) < M := by omega
          obtain ⟨wo, rfl⟩ : ∃ wo : World, wo = wr := ⟨_, rfl⟩
          go_wp2_with fail
          go_loopw [106] (fun s wr => ∃ j : Nat, j ≤ i ∧ s = num j ∧ Hid (BAc RB RC (byteBits ([] ++ ilv (rows.map (·.1)) k ++ colOf ((rows.map (·.1)).take j) k)) w1 wr)) (fun s _ => i - (intOf s).toNat)
          case atStart => exact ⟨0, by omega, rfl, Lib.hid (by have := HB.out; simpa [colOf] using this)⟩
          case round =>
            obtain ⟨j, hj, rfl, HBj⟩ := hrel
            have hji : (j : Int) ≤ i := by omega
            by_cases hjl : j < i
            · have hjli : (j : Int) < i := by omega
              have hjc : j < i + rest.length := by omega
              obtain ⟨p, r, hr, hcell, DB, EB, hp, hdb, heb⟩ := HACC.out wr HBj.out.keeps j hjl
              have HCT : Hid (colOf ((rows.map (·.1)).take (j + 1)) k = colOf ((rows.map (·.1)).take j) k ++ ((r.1)[k]?).toList) := Lib.hid (by
                have hlen : j < (rows.map (·.1)).length := by rw [List.length_map, HP.out.rows.1]; exact hjl
                rw [colOf_take _ _ _ hlen]
                congr 2
                rw [List.getElem_map]
                rw [List.getElem?_eq_getElem (by simpa using hlen)] at hr
                injection hr with hr; rw [hr])
              have hrl := (HLEN.out j r hr).1
              have hrli : (r.1.length : Int) ≤ 131 := by omega
              have HPB := Lib.hid hp
              have HFEW := Lib.hid (col_few (rows.map (·.1)) ([]) k j 131 6 H1L.out (by rw [List.length_map, HP.out.rows.1]; omega))
              have HR9 := Lib.hid (HLEN.out j r hr)
              clear hr hp
              by_cases hkr : k < r.1.length
              · have hkri : (k : Int) < r.1.length := by omega
                have g1 := hdb.at (u8_get r.1 k hkr)
                have HX : Hid (((r.1)[k]?).toList = [(r.1).getD k 0]) := Lib.hid (by rw [List.getD_eq_getElem?_getD, List.getElem?_eq_getElem hkr]; rfl)
                have hx9 := getD_lt256 HR9.out.2.2.1 k
                generalize (r.1).getD k 0 = x at g1 HX hx9
                have hxi : (x : Int) < 256 := by omega
                unfold u8c at g1
                go_wp2_with fail
                refine (pairData_c HPB.out _ _ _ rfl).mono ?_
                rintro e wx ⟨rfl, rfl⟩
                go_wp2_with fail
                refine (bits_k HBj.out _ x 8 _ rfl rfl (by omega) (by omega) (by rw [byteBits_len]; have h1 := HFEW.out; have h2 := HPRE.out; omega)).mono ?_
                rintro e w5 ⟨rfl, hb5⟩
                go_wp2_with fail
                go_roundw
                case rel => exact ⟨j + 1, by omega, by go_num, Lib.hid (by rw [HCT.out, HX.out, ← List.append_assoc, byteBits_append _ [x], byteBits_one]; exact hb5)⟩
                case measure => simp [intOf]; omega
              · have hkri : ¬ (k : Int) < r.1.length := by omega
                have HX : Hid (((r.1)[k]?).toList = []) := Lib.hid (by rw [List.getElem?_eq_none (by omega)]; rfl)
                go_wp2_with fail
                refine (pairData_c HPB.out _ _ _ rfl).mono ?_
                rintro e wx ⟨rfl, rfl⟩
                go_wp2_with fail
                go_roundw
                case rel => exact ⟨j + 1, by omega, by go_num, Lib.hid (by rw [HCT.out, HX.out, List.append_nil]; exact HBj.out)⟩
                case measure => simp [intOf]; omega
            · obtain rfl : j = i := by omega
              have HFIN : Hid (BAc RB RC (byteBits ([] ++ ilv (rows.map (·.1)) (k + 1))) w1 wr) := Lib.hid (by
                have h1 := HBj.out
                rw [List.take_of_length_le (by rw [List.length_map, HP.out.rows.1]; exact Nat.le_refl _), List.append_assoc] at h1
                exact h1)
              go_wp2_with fail
              go_roundw
              case rel => exact ⟨k + 1, by omega, by go_num, HFIN⟩
              case measure => simp [intOf]; omega
        · obtain rfl : k = M := by omega
          obtain ⟨MM, hMM⟩ : ∃ MM, MM = k := ⟨_, rfl⟩
          subst hMM
          have HPRE2 : Hid ((ilv (rows.map (·.1)) MM).length ≤ 5000) := Lib.hid (by rw [HSUM.out.1]; omega)
          have HB2 : Hid (BAc RB RC (byteBits (ilv (rows.map (·.1)) MM ++ ilv (rows.map (·.2)) 0)) w1 wr) := Lib.hid (by have := HB.out; simpa [ilv] using this)
          clear HPRE HB
          have HPRE := HPRE2
          clear HPRE2
          obtain ⟨wq, rfl⟩ : ∃ wq : World, wq = wr := ⟨_, rfl⟩
          go_wp2_with fail
          go_loopw [26] (fun s wr => ∃ k : Nat, k ≤ ec ∧ s = num k ∧ Hid (BAc RB RC (byteBits (ilv (rows.map (·.1)) MM ++ ilv (rows.map (·.2)) k)) w1 wr)) (fun s _ => ec - (intOf s).toNat)
          case atStart => exact ⟨0, by omega, rfl, HB2⟩
          case round =>
            obtain ⟨k, hk, rfl, HB⟩ := hrel
            have hki : (k : Int) ≤ ec := by omega
            by_cases hkl : k < ec
            · have hkli : (k : Int) < ec := by omega
              obtain ⟨wo, rfl⟩ : ∃ wo : World, wo = wr := ⟨_, rfl⟩
              go_wp2_with fail
              go_loopw [131] (fun s wr => ∃ j : Nat, j ≤ i ∧ s = num j ∧ Hid (BAc RB RC (byteBits (ilv (rows.map (·.1)) MM ++ ilv (rows.map (·.2)) k ++ colOf ((rows.map (·.2)).take j) k)) w1 wr)) (fun s _ => i - (intOf s).toNat)
              case atStart => exact ⟨0, by omega, rfl, Lib.hid (by have := HB.out; simpa [colOf] using this)⟩
              case round =>
                obtain ⟨j, hj, rfl, HBj⟩ := hrel
                have hji : (j : Int) ≤ i := by omega
                by_cases hjl : j < i
                · have hjli : (j : Int) < i := by omega
                  have hjc : j < i + rest.length := by omega
                  obtain ⟨p, r, hr, hcell, DB, EB, hp, hdb, heb⟩ := HACC.out wr HBj.out.keeps j hjl
                  have HCT : Hid (colOf ((rows.map (·.2)).take (j + 1)) k = colOf ((rows.map (·.2)).take j) k ++ ((r.2)[k]?).toList) := Lib.hid (by
                    have hlen : j < (rows.map (·.2)).length := by rw [List.length_map, HP.out.rows.1]; exact hjl
                    rw [colOf_take _ _ _ hlen]
                    congr 2
                    rw [List.getElem_map]
                    rw [List.getElem?_eq_getElem (by simpa using hlen)] at hr
                    injection hr with hr; rw [hr])
                  have hrl := (HLEN.out j r hr).2.1
                  have hrli : (r.2.length : Int) ≤ 131 := by omega
                  have HPB := Lib.hid hp
                  have HFEW := Lib.hid (col_few (rows.map (·.2)) (ilv (rows.map (·.1)) MM) k j 131 6 H2L.out (by rw [List.length_map, HP.out.rows.1]; omega))
                  have HR9 := Lib.hid (HLEN.out j r hr)
                  clear hr hp
                  by_cases hkr : k < r.2.length
                  · have hkri : (k : Int) < r.2.length := by omega
                    have g1 := heb.at (u8_get r.2 k hkr)
                    have HX : Hid (((r.2)[k]?).toList = [(r.2).getD k 0]) := Lib.hid (by rw [List.getD_eq_getElem?_getD, List.getElem?_eq_getElem hkr]; rfl)
                    have hx9 := getD_lt256 HR9.out.2.2.2 k
                    generalize (r.2).getD k 0 = x at g1 HX hx9
                    have hxi : (x : Int) < 256 := by omega
                    unfold u8c at g1
                    go_wp2_with fail
                    refine (pairEC_c HPB.out _ _ _ rfl).mono ?_
                    rintro e wx ⟨rfl, rfl⟩
                    go_wp2_with fail
                    refine (bits_k HBj.out _ x 8 _ rfl rfl (by omega) (by omega) (by rw [byteBits_len]; have h1 := HFEW.out; have h2 := HPRE.out; omega)).mono ?_
                    rintro e w5 ⟨rfl, hb5⟩
                    go_wp2_with fail
                    go_roundw
                    case rel => exact ⟨j + 1, by omega, by go_num, Lib.hid (by rw [HCT.out, HX.out, ← List.append_assoc, byteBits_append _ [x], byteBits_one]; exact hb5)⟩
                    case measure => simp [intOf]; omega
                  · have hkri : ¬ (k : Int) < r.2.length := by omega
                    have HX : Hid (((r.2)[k]?).toList = []) := Lib.hid (by rw [List.getElem?_eq_none (by omega)]; rfl)
                    go_wp2_with fail
                    refine (pairEC_c HPB.out _ _ _ rfl).mono ?_
                    rintro e wx ⟨rfl, rfl⟩
                    go_wp2_with fail
                    go_roundw
                    case rel => exact ⟨j + 1, by omega, by go_num, Lib.hid (by rw [HCT.out, HX.out, List.append_nil]; exact HBj.out)⟩
                    case measure => simp [intOf]; omega
                · obtain rfl : j = i := by omega
                  have HFIN : Hid (BAc RB RC (byteBits (ilv (rows.map (·.1)) MM ++ ilv (rows.map (·.2)) (k + 1))) w1 wr) := Lib.hid (by
                    have h1 := HBj.out
                    rw [List.take_of_length_le (by rw [List.length_map, HP.out.rows.1]; exact Nat.le_refl _), List.append_assoc] at h1
                    exact h1)
                  go_wp2_with fail
                  go_roundw
                  case rel => exact ⟨k + 1, by omega, by go_num, HFIN⟩
                  case measure => simp [intOf]; omega
            · obtain rfl : k = ec := by omega
              have hlen : ((byteBits (ilv (rows.map (·.1)) MM ++ ilv (rows.map (·.2)) k)).length + 7) / 8 = nT := by
                rw [byteBits_len, List.length_append, HSUM.out.1, HSUM.out.2]
                have := HTOT.out; omega
              have HLL := Lib.hid hlen
              clear hlen
              go_wp2_with fail
              refine (sizeInBytes_k HB.out).mono ?_
              rintro e wx ⟨rfl, rfl⟩
              rw [HLL.out]
              go_wp2_with fail
              go_ret2
              obtain ⟨C', ws', hba', hk', hC'⟩ := HB.out
              have hRw2 := HRR.out
              have hs1 := kn.size
              have hs2 := HP.out.kept.size
              refine ⟨⟨RB, C', ws', rows, rfl, HP.out.rows, by rw [HMM.out]; exact hba', by omega, by omega⟩, (HP.out.kept.trans0 kn).trans hk' (by intro x hx hl; simp at hx; omega)⟩
end
end Go.Proofs.YtplpafbkalkchaaGreatDoor
