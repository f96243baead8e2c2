/- Walks: the field is made. -/
import Derived.Test.YtplpafbkalkchaaGreatDoorW05
namespace Go.Proofs.YtplpafbkalkchaaGreatDoor
open Go Go.RowKit Go.Proofs
set_option linter.all false

section
def logTo : Nat → List Nat
  | 0 => List.replicate 256 0
  | i + 1 => (logTo i).set (gexp i) i
set_option maxRecDepth 100000 in
theorem logTo_all : logTo 255 = logLit := by decide
theorem logTo_len (i : Nat) : (logTo i).length = 256 := by
  induction i with
  | zero => exact List.length_replicate
  | succ i ih => unfold logTo; rw [List.length_set, ih]
theorem size_setCell (w : World) (a : Addr) (v : Value) : (w.setCell a v).heap.size = w.heap.size := by simp [World.setCell]
theorem gstep_lt (x : Nat) (h : x < 256) : gstep x < 256 := by
  unfold gstep
  split
  · exact Nat.lt_of_le_of_lt Nat.and_le_right (by decide)
  · omega
/-- The cells of a field. -/
abbrev gfCells (x l z o : Value) (n : Nat) : List Value := [x, l, z, o, num n, .int .i64 285, .int .i64 0]
theorem mixed_zero (q : List Nat) (n : Nat) (h : q.length = n) : mixed q 0 = List.replicate n (num 0) := by unfold mixed; simp [h]
set_option maxRecDepth 100000 in
set_option maxHeartbeats 2000000 in
theorem newGF_n (n : Nat) (hn : n = 256) (w : World) : Calls Tryz.prog 130 #[.int .i64 285, num n, .int .i64 0] w fun e w' => e = .returned (ptv w.heap.size) ∧ GF w' w.heap.size w.heap.size ∧ Kept [] w w' ∧ w'.heap.size = w.heap.size + 7 := by
  have hmk := mk_ints (n : Int) (n : Int) n n rfl rfl (by omega) (by omega)
  have hn1 : (n : Int) ≤ 256 := by omega
  have hn2 : (256 : Int) ≤ n := by omega
  have HN := Lib.hid hn
  clear hn
  go_enter Tryz.func130, Tryz.ntmps130
  go_wp2_with fail
  have HW : ∃ W, W = ((w.alloc (Obj.cells #[Value.slice none 0 0, Value.slice none 0 0, Value.pointer none, Value.pointer none, num n, Value.int .i64 285, Value.int .i64 0] 267)).alloc (Obj.cells (Array.replicate n (Value.int .i64 0)) 3)).alloc (Obj.cells (Array.replicate n (Value.int .i64 0)) 3) := ⟨_, rfl⟩
  obtain ⟨W, hW⟩ := HW
  have b1 : Blk W w.heap.size (gfCells (.slice none 0 0) (.slice none 0 0) (.pointer none) (.pointer none) n) 267 := by rw [hW]; exact ((Blk.new w (gfCells (.slice none 0 0) (.slice none 0 0) (.pointer none) (.pointer none) n) 267).alloc _).alloc _
  have b2 : Blk W (w.heap.size + 1) (mixed expLit 0) 3 := by
    rw [hW, mixed_zero expLit n (by rw [HN.out]; exact expLen)]
    have := Blk.newA (w.alloc (Obj.cells #[Value.slice none 0 0, Value.slice none 0 0, Value.pointer none, Value.pointer none, num n, Value.int .i64 285, Value.int .i64 0] 267)) (Array.replicate n (Value.int .i64 0)) 3
    rw [World.size_alloc] at this
    exact (Blk.of (by simp) this).alloc _
  have b3 : Blk W (w.heap.size + 1 + 1) ((logTo 0).map num) 3 := by
    rw [hW]
    have := Blk.newA ((w.alloc (Obj.cells #[Value.slice none 0 0, Value.slice none 0 0, Value.pointer none, Value.pointer none, num n, Value.int .i64 285, Value.int .i64 0] 267)).alloc (Obj.cells (Array.replicate n (Value.int .i64 0)) 3)) (Array.replicate n (Value.int .i64 0)) 3
    rw [World.size_alloc, World.size_alloc] at this
    exact Blk.of (by rw [HN.out]; unfold logTo; rw [List.map_replicate, List.toArray_replicate]; rfl) this
  have k1 : Kept [] w W := by rw [hW]; exact (((Kept.refl _ _).alloc _).alloc _).alloc _
  have s1 : W.heap.size = w.heap.size + 3 := by rw [hW]; simp
  rw [← hW]
  clear hW hmk
  have S1 := Lib.hid s1
  clear s1
  obtain ⟨F, hF⟩ : ∃ F, w.heap.size = F := ⟨_, rfl⟩
  rw [hF] at b1 b2 b3 ⊢
  have HF := Lib.hid hF
  clear hF
  go_loopw [10, 11] (fun x i wr => ∃ (k v : Nat), k ≤ 256 ∧ i = num k ∧ x = num v ∧ v < 256 ∧ Hid (k < 256 → v = gexp k) ∧ Kept [] w wr ∧ Blk wr F (gfCells (.slice none 0 0) (.slice none 0 0) (.pointer none) (.pointer none) n) 267 ∧ Blk wr (F + 1) (mixed expLit k) 3 ∧ Blk wr (F + 1 + 1) ((logTo 0).map num) 3 ∧ Hid (wr.heap.size = W.heap.size)) (fun _ i _ => 256 - (intOf i).toNat)
  case atStart => exact ⟨0, 1, by omega, rfl, rfl, by omega, Lib.hid (fun _ => exp_zero.symm), k1, b1, b2, b3, Lib.hid rfl⟩
  case round =>
    obtain ⟨k, v, hk, rfl, rfl, hv, HV, hkp, c1, c2, c3, HSZ⟩ := hrel
    have hki : (k : Int) ≤ 256 := by omega
    have hvi : (v : Int) < 256 := by omega
    by_cases hlt : k < 256
    · have hlti : (k : Int) < (n : Int) := by omega
      have hkl : k < expLit.length := by rw [expLen]; exact hlt
      have d1 := c2.free k
      have d2 := c2.at (mixed_at expLit k hkl)
      have HST : Hid (∀ u, u = gstep v → u < 256 ∧ (k + 1 < 256 → u = gexp (k + 1))) := Lib.hid (fun u hu => by
        subst hu
        exact ⟨gstep_lt v hv, fun h => by rw [exp_step k (by omega), HV.out (by omega)]⟩)
      have hw1 : IntKind.i64.wrap ((v : Int) * 2) = (v : Int) * 2 := by rw [IntKind.wrap_i64]; omega
      have hfin : ∀ wz, wz = wr.setCell ⟨F + 1, k, none⟩ (num v) → Kept [] w wz ∧ Blk wz F (gfCells (.slice none 0 0) (.slice none 0 0) (.pointer none) (.pointer none) n) 267 ∧ Blk wz (F + 1) (mixed expLit (k + 1)) 3 ∧ Blk wz (F + 1 + 1) ((logTo 0).map num) 3 ∧ Hid (wz.heap.size = W.heap.size) := by
        intro wz hwz
        subst hwz
        refine ⟨hkp.setCell (.inr (by rw [HF.out]; simp)) _, c1.set_other (by simp) _, ?_, c3.set_other (by simp) _, Lib.hid (by rw [size_setCell]; exact HSZ.out)⟩
        rw [← mixed_set expLit k hkl]
        have e : expLit.getD k 0 = v := (HV.out hlt).symm
        rw [e]
        exact c2.set k _
      have HFIN := Lib.hid hfin
      clear hfin
      by_cases hbig : 256 ≤ 2 * v
      · have hbi : (n : Int) ≤ (v : Int) * 2 := by omega
        have hx := i64_xor62 (2 * v) 285 (by omega) (by decide)
        have hx' : bits .xor .i64 ((v : Int) * 2) 285 = ((2 * v ^^^ 285 : Nat) : Int) := by rw [← hx]; congr 1; omega
        obtain ⟨u, hu⟩ : ∃ u, 2 * v ^^^ 285 = u := ⟨_, rfl⟩
        have hu9 : u < 512 := by rw [← hu]; exact Nat.xor_lt_two_pow (n := 9) (by omega) (by decide)
        rw [hu] at hx'
        have hy : bits .and .i64 (u : Int) ((n : Int) - 1) = ((u &&& 255 : Nat) : Int) := by
          have := (bits_nat .i64 62 (by decide) (fun n h0 h1 => by rw [IntKind.wrap_i64]; omega) u 255 (by omega) (by decide)).1
          rw [← this]; congr 1; rw [HN.out]; rfl
        have HU := Lib.hid (HST.out (u &&& 255) (by unfold gstep; rw [if_pos hbig, hu]))
        generalize u &&& 255 = z at hy HU
        clear hx hu
        go_wp2_with fail
        go_roundw
        case rel => exact ⟨k + 1, z, by omega, by go_num, rfl, HU.out.1, Lib.hid HU.out.2, HFIN.out _ rfl⟩
        case measure => simp [intOf]; omega
      · have hbi : (v : Int) * 2 < (n : Int) := by omega
        have HU := Lib.hid (HST.out (2 * v) (by unfold gstep; rw [if_neg hbig]))
        have HU1 := Lib.hid HU.out.1
        go_wp2_with fail
        go_roundw
        case rel => exact ⟨k + 1, 2 * v, by omega, by go_num, by go_num, HU1.out, Lib.hid HU.out.2, HFIN.out _ rfl⟩
        case measure => simp [intOf]; omega
    · obtain rfl : k = 256 := by omega
      rw [show (256 : Nat) = expLit.length from expLen.symm, mixed_all] at c2
      go_wp2_with fail
      have HS0 : Hid (wr.heap.size = w.heap.size + 3) := Lib.hid (by rw [HSZ.out, S1.out])
      clear HV hv hk hki hlt
      go_loopw [12] (fun i wq => ∃ k : Nat, k ≤ 255 ∧ i = num k ∧ Kept [] w wq ∧ Blk wq F (gfCells (.slice none 0 0) (.slice none 0 0) (.pointer none) (.pointer none) n) 267 ∧ Blk wq (F + 1) (expLit.map num) 3 ∧ Blk wq (F + 1 + 1) ((logTo k).map num) 3 ∧ Hid (wq.heap.size = w.heap.size + 3)) (fun i _ => 255 - (intOf i).toNat)
      case atStart => exact ⟨0, by omega, rfl, hkp, c1, c2, c3, HS0⟩
      case round =>
        obtain ⟨k, hk, rfl, hkq, e1, e2, e3, HSQ⟩ := hrel
        have hki : (k : Int) ≤ 255 := by omega
        by_cases hlt : k < 255
        · have hlti : (k : Int) < (n : Int) - 1 := by omega
          have g1 := cs_cell e2 k (by rw [expLen]; omega)
          have hbd := exp_bd k (by omega)
          have HL : Hid (∀ u, u = gexp k → logTo (k + 1) = (logTo k).set u k) := Lib.hid (by rintro u rfl; rfl)
          have hg : expLit.getD k 0 = gexp k := rfl
          rw [hg] at g1
          have HLL := Lib.hid (HL.out _ rfl)
          generalize gexp k = u at g1 hbd HLL
          have hui : (u : Int) < (n : Int) := by omega
          have g2 := e3.free u
          have g3 := cs_cell e3 u (by rw [logTo_len]; omega)
          go_wp2_with fail
          go_roundw
          case rel =>
            refine ⟨k + 1, by omega, by go_num, hkq.setCell (.inr (by rw [HF.out]; simp; omega)) _, e1.set_other (by simp; omega) _, e2.set_other (by simp) _, ?_, Lib.hid (by rw [size_setCell]; exact HSQ.out)⟩
            rw [HLL.out, List.map_set]
            exact e3.set u _
          case measure => simp [intOf]; omega
        · obtain rfl : k = 255 := by omega
          rw [logTo_all] at e3
          have f0 := e1.free 0
          have f1 := e1.free 1
          have f2 := e1.free 2
          have f3 := e1.free 3
          have h0 := e1.at (i := 0) rfl
          have h1 := e1.at (i := 1) rfl
          have h2 := e1.at (i := 2) rfl
          have h3 := e1.at (i := 3) rfl
          go_wp2_with fail
          have q1 : Blk (((wr.setCell ⟨F, 0, none⟩ (slv (F + 1) n n)).setCell ⟨F, 1, none⟩ (slv (F + 1 + 1) n n)).alloc (Obj.cells #[Value.int IntKind.i64 0] 3)) F (gfCells (slv (F + 1) n n) (slv (F + 1 + 1) n n) (.pointer none) (.pointer none) n) 267 := ((e1.set 0 _).set 1 _).alloc _
          have q2 : Blk (((wr.setCell ⟨F, 0, none⟩ (slv (F + 1) n n)).setCell ⟨F, 1, none⟩ (slv (F + 1 + 1) n n)).alloc (Obj.cells #[Value.int IntKind.i64 0] 3)) (F + 1) (expLit.map num) 3 := ((e2.set_other (by simp) _).set_other (by simp) _).alloc _
          have q3 : Blk (((wr.setCell ⟨F, 0, none⟩ (slv (F + 1) n n)).setCell ⟨F, 1, none⟩ (slv (F + 1 + 1) n n)).alloc (Obj.cells #[Value.int IntKind.i64 0] 3)) (F + 1 + 1) (logLit.map num) 3 := ((e3.set_other (by simp; omega) _).set_other (by simp; omega) _).alloc _
          have q4 : Blk (((wr.setCell ⟨F, 0, none⟩ (slv (F + 1) n n)).setCell ⟨F, 1, none⟩ (slv (F + 1 + 1) n n)).alloc (Obj.cells #[Value.int IntKind.i64 0] 3)) wr.heap.size ([0].map num) 3 := by
            have := Blk.new ((wr.setCell ⟨F, 0, none⟩ (slv (F + 1) n n)).setCell ⟨F, 1, none⟩ (slv (F + 1 + 1) n n)) ([0].map num) 3
            rw [size_setCell, size_setCell] at this; exact this
          have qk : Kept [] w (((wr.setCell ⟨F, 0, none⟩ (slv (F + 1) n n)).setCell ⟨F, 1, none⟩ (slv (F + 1 + 1) n n)).alloc (Obj.cells #[Value.int IntKind.i64 0] 3)) :=
            ((hkq.setCell (.inr (by rw [HF.out]; simp)) _).setCell (.inr (by rw [HF.out]; simp)) _).alloc _
          have qs : Hid ((((wr.setCell ⟨F, 0, none⟩ (slv (F + 1) n n)).setCell ⟨F, 1, none⟩ (slv (F + 1 + 1) n n)).alloc (Obj.cells #[Value.int IntKind.i64 0] 3)).heap.size = wr.heap.size + 1) := Lib.hid (by rw [World.size_alloc, size_setCell, size_setCell])
          clear f0 f1 f2 f3 h0 h1 h2 h3 e1 e2 e3 hkq
          generalize ((wr.setCell ⟨F, 0, none⟩ (slv (F + 1) n n)).setCell ⟨F, 1, none⟩ (slv (F + 1 + 1) n n)).alloc (Obj.cells #[Value.int IntKind.i64 0] 3) = W2 at q1 q2 q3 q4 qk qs ⊢
          refine (newPoly_c [0] F q4 (by simp) (by simp) (by have := HSQ.out; have := HF.out; omega)).mono ?_
          rintro e w3 ⟨rfl, _, k3, _, hp⟩
          obtain ⟨p1, p2⟩ := hp (.inl rfl)
          have HP2 := Lib.hid p2
          clear p2
          have r1 := k3.blk q1 (by simp)
          have r2 := k3.blk q2 (by simp)
          have r3 := k3.blk q3 (by simp)
          have f2 := r1.free 2
          have h2 := r1.at (i := 2) rfl
          go_wp2_with fail
          have hWs : W2.heap.size = F + 4 := by rw [qs.out, HSQ.out, HF.out]
          have hC0 : wr.heap.size = F + 3 := by rw [HSQ.out, HF.out]
          have m1 : Blk ((w3.setCell ⟨F, 2, none⟩ (ptv W2.heap.size)).alloc (Obj.cells #[Value.int IntKind.i64 1] 3)) F (gfCells (slv (F + 1) n n) (slv (F + 1 + 1) n n) (ptv W2.heap.size) (.pointer none) n) 267 := (r1.set 2 _).alloc _
          have m2 : Blk ((w3.setCell ⟨F, 2, none⟩ (ptv W2.heap.size)).alloc (Obj.cells #[Value.int IntKind.i64 1] 3)) (F + 1) (expLit.map num) 3 := (r2.set_other (by simp) _).alloc _
          have m3 : Blk ((w3.setCell ⟨F, 2, none⟩ (ptv W2.heap.size)).alloc (Obj.cells #[Value.int IntKind.i64 1] 3)) (F + 1 + 1) (logLit.map num) 3 := (r3.set_other (by simp; omega) _).alloc _
          have mk0 : Kept [F] w3 ((w3.setCell ⟨F, 2, none⟩ (ptv W2.heap.size)).alloc (Obj.cells #[Value.int IntKind.i64 1] 3)) := ((Kept.refl _ _).setCell (by simp) _).alloc _
          have mk : Kept [] w ((w3.setCell ⟨F, 2, none⟩ (ptv W2.heap.size)).alloc (Obj.cells #[Value.int IntKind.i64 1] 3)) := ((qk.trans0 k3).setCell (.inr (by rw [HF.out]; simp)) _).alloc _
          have m4 : PLc ((w3.setCell ⟨F, 2, none⟩ (ptv W2.heap.size)).alloc (Obj.cells #[Value.int IntKind.i64 1] 3)) W2.heap.size F wr.heap.size [0] := p1.keptS mk0 (by simp; omega) (by simp; omega)
          have m5 : Blk ((w3.setCell ⟨F, 2, none⟩ (ptv W2.heap.size)).alloc (Obj.cells #[Value.int IntKind.i64 1] 3)) (W2.heap.size + 1) ([1].map num) 3 := by
            have := Blk.new (w3.setCell ⟨F, 2, none⟩ (ptv W2.heap.size)) ([1].map num) 3
            rw [size_setCell, HP2.out] at this; exact this
          have ms : Hid (((w3.setCell ⟨F, 2, none⟩ (ptv W2.heap.size)).alloc (Obj.cells #[Value.int IntKind.i64 1] 3)).heap.size = F + 6) := Lib.hid (by rw [World.size_alloc, size_setCell, HP2.out, hWs])
          clear r1 r2 r3 f2 h2 p1 hp q1 q2 q3 q4 qk k3 mk0
          generalize ((w3.setCell ⟨F, 2, none⟩ (ptv W2.heap.size)).alloc (Obj.cells #[Value.int IntKind.i64 1] 3)) = W4 at m1 m2 m3 mk m4 m5 ms ⊢
          have HWS := Lib.hid hWs
          have HC0 := Lib.hid hC0
          clear hWs hC0
          refine (newPoly_c [1] F m5 (by simp) (by simp) (by have := HWS.out; omega)).mono ?_
          rintro e w5 ⟨rfl, _, k5, _, hp⟩
          obtain ⟨p1, p2⟩ := hp (.inl rfl)
          have HP5 := Lib.hid p2
          clear p2
          have r1 := k5.blk m1 (by simp)
          have r2 := k5.blk m2 (by simp)
          have r3 := k5.blk m3 (by simp)
          have r4 := m4.keptS k5 (by simp) (by simp)
          have f3 := r1.free 3
          have h3 := r1.at (i := 3) rfl
          have HF6 := ms.out
          have kk : Kept [F] w5 (w5.setCell ⟨F, 3, none⟩ (ptv W4.heap.size)) := (Kept.refl _ _).setCell (by simp) _
          have z1 := p1.keptS kk (by simp; omega) (by simp; have := HWS.out; omega)
          have z0 := r4.keptS kk (by simp; have := HWS.out; omega) (by simp; have := HC0.out; omega)
          have zz := (mk.trans0 k5).setCell (p := ⟨F, 3, none⟩) (.inr (by rw [HF.out]; simp)) (ptv W4.heap.size)
          have hend : Hid (GF (w5.setCell ⟨F, 3, none⟩ (ptv W4.heap.size)) F F ∧ Kept [] w (w5.setCell ⟨F, 3, none⟩ (ptv W4.heap.size)) ∧ (w5.setCell ⟨F, 3, none⟩ (ptv W4.heap.size)).heap.size = F + 7) := by
            have e1 := HWS.out
            have e2 := HC0.out
            refine Lib.hid ⟨⟨rfl, ?_, r2.set_other (by simp) _, r3.set_other (by simp; omega) _, ?_, ?_⟩, zz, by rw [size_setCell, HP5.out, HF6]⟩
            · have := r1.set 3 (ptv W4.heap.size)
              rw [e1, HF6, HN.out] at this; rw [HF6]; exact this
            · rw [e1, e2] at z0; exact z0
            · rw [HF6, e1] at z1; rw [HF6]; exact z1
          clear r1 r2 r3 r4 z0 z1 zz kk m1 m2 m3 m4 m5 mk k5 p1 hp HF6
          go_wp2_with fail
          go_ret
          rw [HF.out]
          exact ⟨rfl, hend.out⟩
theorem newGF_c (w : World) : Calls Tryz.prog 130 #[.int .i64 285, .int .i64 256, .int .i64 0] w fun e w' => e = .returned (ptv w.heap.size) ∧ GF w' w.heap.size w.heap.size ∧ Kept [] w w' ∧ w'.heap.size = w.heap.size + 7 := newGF_n 256 rfl w
theorem field_c (w : World) : Calls Tryz.prog 93 #[] w fun e w' => e = .returned (ptv w.heap.size) ∧ GF w' w.heap.size w.heap.size ∧ Kept [] w w' ∧ w'.heap.size = w.heap.size + 7 := by
  go_enter Tryz.func93, Tryz.ntmps93
  go_wp2_with fail
  refine (newGF_c w).mono ?_
  rintro e w1 ⟨rfl, h1, h2, h3⟩
  have H3 := Lib.hid h3
  clear h3
  go_wp2_with fail
  go_ret
  exact ⟨rfl, h1, h2, H3.out⟩
end
end Go.Proofs.YtplpafbkalkchaaGreatDoor
