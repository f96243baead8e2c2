/- Walks: the sum of two polynomials. (Printed by gen_r4.py.) -/
import Derived.Deep.CutRange
import Derived.Lib.Builder
import Derived.Test.YtplpafbkalkchaaGreatDoorW03
import Derived.Test.YtplpafbkalkchaaGreatDoorW01
namespace Go.Proofs.YtplpafbkalkchaaGreatDoor
open Go Go.RowKit Go.Proofs
set_option linter.all false

section
theorem info267 : (Tryz.prog.info? 267).isSome = true := by kernel_rfl
/-- A pointer to the field, held against itself. -/
theorem neq_field (w : World) (a : Addr) : (binOp .neq 177 (.pointer (some a)) (.pointer (some a))).run Tryz.prog w = .ok (.bool false) w := by
  obtain ⟨j, hj⟩ := Option.isSome_iff_exists.1 info267
  exact Lib.run_neq_ptr_same w a Tryz.underlying177 hj
/-- The sum, s no longer than l. -/
def psum (s l : List Nat) : List Nat := l.take (l.length - s.length) ++ List.zipWith (· ^^^ ·) s (l.drop (l.length - s.length))
def padd (a b : List Nat) : List Nat := if isZ a then b else if isZ b then a else if a.length ≤ b.length then strip (psum a b) else strip (psum b a)
theorem psum_len (s l : List Nat) (h : s.length ≤ l.length) : (psum s l).length = l.length := by unfold psum; simp; omega
theorem psum_lo (s l : List Nat) (h : s.length ≤ l.length) (i : Nat) (hi : i < l.length - s.length) : (psum s l).getD i 0 = l.getD i 0 := by
  unfold psum
  rw [List.getD_eq_getElem?_getD, List.getD_eq_getElem?_getD, List.getElem?_append_left (by simp; omega), List.getElem?_take_of_lt hi]
theorem psum_hi (s l : List Nat) (h : s.length ≤ l.length) (i : Nat) (h1 : l.length - s.length ≤ i) (h2 : i < l.length) : (psum s l).getD i 0 = s.getD (i - (l.length - s.length)) 0 ^^^ l.getD i 0 := by
  unfold psum
  rw [List.getD_eq_getElem?_getD, List.getElem?_append_right (by simp; omega)]
  simp only [List.length_take]
  rw [show min (l.length - s.length) l.length = l.length - s.length by omega, List.getElem?_zipWith, List.getElem?_drop, show l.length - s.length + (i - (l.length - s.length)) = i by omega]
  rw [List.getElem?_eq_getElem (show i - (l.length - s.length) < s.length by omega), List.getElem?_eq_getElem h2]
  simp [List.getElem?_eq_getElem (show i - (l.length - s.length) < s.length by omega), List.getElem?_eq_getElem h2]
theorem getD_lt256 {cs : List Nat} (h : ∀ x ∈ cs, x < 256) (i : Nat) : cs.getD i 0 < 256 := by
  rw [List.getD_eq_getElem?_getD]
  cases hx : cs[i]? with
  | none => simp
  | some x => exact h x (List.mem_of_getElem? hx)
/-- A list, its first i numbers those of q, the others 0. -/
def mixed (q : List Nat) (i : Nat) : List Value := (q.take i ++ List.replicate (q.length - i) 0).map num
theorem mixed_len (q : List Nat) (i : Nat) (h : i ≤ q.length) : (mixed q i).length = q.length := by unfold mixed; simp; omega
theorem mixed_set (q : List Nat) (i : Nat) (h : i < q.length) : (mixed q i).set i (num (q.getD i 0)) = mixed q (i + 1) := by
  unfold mixed
  rw [← List.map_set]
  congr 1
  rw [List.take_succ_eq_append_getElem h, List.set_append_right _ _ (by rw [List.length_take]; omega), List.append_assoc]
  congr 1
  rw [List.length_take, show min i q.length = i by omega, Nat.sub_self, show q.length - i = (q.length - (i + 1)) + 1 by omega, List.replicate_succ, List.set_cons_zero, List.getD_eq_getElem?_getD, List.getElem?_eq_getElem h]; rfl
theorem mixed_at (q : List Nat) (i : Nat) (h : i < q.length) : (mixed q i)[i]? = some (num 0) := by
  unfold mixed
  rw [List.getElem?_map, List.getElem?_append_right (by rw [List.length_take]; omega)]
  simp [List.getElem?_replicate, Nat.min_eq_left (Nat.le_of_lt h)]; omega
theorem mixed_all (q : List Nat) : mixed q q.length = q.map num := by unfold mixed; simp
set_option maxRecDepth 100000 in
set_option maxHeartbeats 2000000 in
theorem addPoly_le {w : World} {PA PB F : Nat} {a b : List Nat} (hA : PL w PA F a) (hB : PL w PB F b) (la : a.length ≤ 500) (lb : b.length ≤ 500) (ba : ∀ x ∈ a, x < 256) (bb : ∀ x ∈ b, x < 256)
    (za : isZ a = false) (zb : isZ b = false) (hle : a.length ≤ b.length) : Calls Tryz.prog 218 #[ptv PA, ptv PB] w fun e w' => (∃ P, e = .returned (.tuple #[ptv P, .nilIface]) ∧ PL w' P F (strip (psum a b))) ∧ Kept [] w w' := by
  have HA := Lib.hid hA
  have HB := Lib.hid hB
  have HZA := Lib.hid za
  have HZB := Lib.hid zb
  clear za zb
  obtain ⟨Ca, na, oa, La, a1, a2, a3, a4⟩ := hA
  obtain ⟨Cb, nb, ob, Lb, b1, b2, b3, b4⟩ := hB
  have fa := a1.at (i := 0) rfl
  have ga := a1.at (i := 1) rfl
  have fb := b1.at (i := 0) rfl
  have gb := b1.at (i := 1) rfl
  have xa : ∀ (W : World), Kept [] w W → ∀ i, i < a.length → W.cell? ⟨Ca, oa + i, none⟩ = some (num (a.getD i 0)) := fun W hW i hi => PLc.cell (P := PA) (F := F) (hW.blk a2 (by simp)) a3 i _ (by rw [List.getD_eq_getElem?_getD, List.getElem?_eq_getElem hi]; rfl)
  have xb : ∀ (W : World), Kept [] w W → ∀ i, i < b.length → W.cell? ⟨Cb, ob + i, none⟩ = some (num (b.getD i 0)) := fun W hW i hi => PLc.cell (P := PB) (F := F) (hW.blk b2 (by simp)) b3 i _ (by rw [List.getD_eq_getElem?_getD, List.getElem?_eq_getElem hi]; rfl)
  have HXa := Lib.hid xa
  have HXb := Lib.hid xb
  have HBa := Lib.hid a2
  have HBb := Lib.hid b2
  have Hb3 := Lib.hid b3
  have Hb4 := Lib.hid b4
  have H1a := Lib.hid a1
  have hla1 : 1 ≤ a.length := by cases a with | nil => exact absurd rfl na | cons x r => simp
  have hlb1 : 1 ≤ b.length := by cases b with | nil => exact absurd rfl nb | cons x r => simp
  obtain ⟨q, hq⟩ : ∃ q, psum a b = q := ⟨_, rfl⟩
  have hql : q.length = b.length := by rw [← hq]; exact psum_len _ _ (by omega)
  have qlo : ∀ i, i < b.length - a.length → q.getD i 0 = b.getD i 0 := fun i hi => by rw [← hq]; exact psum_lo _ _ (by omega) i hi
  have qhi : ∀ i, b.length - a.length ≤ i → i < b.length → q.getD i 0 = a.getD (i - (b.length - a.length)) 0 ^^^ b.getD i 0 := fun i h1 h2 => by rw [← hq]; exact psum_hi _ _ (by omega) i h1 h2
  have HQH := Lib.hid qhi
  have HQ := Lib.hid hq
  have HQL := Lib.hid hql
  have HTK : Hid (mixed q (b.length - a.length) = (List.replicate b.length (num 0)).take 0 ++ (((Lb.map num).drop ob).take (b.length - a.length)) ++ (List.replicate b.length (num 0)).drop (0 + (b.length - a.length))) := Lib.hid (by
    unfold mixed
    rw [List.map_append, List.map_take, List.map_replicate, ← List.map_drop, b3, ← List.map_take, ← List.map_take]
    congr 1
    · rw [List.take_zero, List.nil_append]
      congr 1
      apply List.ext_getElem?
      intro i
      rcases Nat.lt_or_ge i (b.length - a.length) with h | h
      · rw [List.getElem?_take_of_lt h, List.getElem?_take_of_lt h]
        have := qlo i h
        rw [List.getD_eq_getElem?_getD, List.getD_eq_getElem?_getD, List.getElem?_eq_getElem (by omega), List.getElem?_eq_getElem (by omega)] at this
        rw [List.getElem?_eq_getElem (by omega), List.getElem?_eq_getElem (by omega)]
        simpa using this
      · rw [List.getElem?_eq_none (by simp; omega), List.getElem?_eq_none (by simp; omega)]
    · rw [List.drop_replicate, hql]; congr 1; omega)
  have lai : (a.length : Int) ≤ 500 := by omega
  have lbi : (b.length : Int) ≤ 500 := by omega
  have la1i : (1 : Int) ≤ a.length := by omega
  have lb1i : (1 : Int) ≤ b.length := by omega
  have hlei : (a.length : Int) ≤ b.length := by omega
  have hdec : decide (b.length < a.length) = false := by rw [decide_eq_false_iff_not]; omega
  have hmk := mk_ints (b.length : Int) (b.length : Int) b.length b.length rfl rfl (by omega) (by omega)
  have hBDa := Lib.hid (getD_lt256 ba)
  have hBDb := Lib.hid (getD_lt256 bb)
  clear a1 a2 a3 a4 b1 b2 b3 b4 hq hql qlo qhi xa xb ba bb na nb
  have hneq := fun (W : World) => neq_field W ⟨F, 0, none⟩
  go_enter Tryz.func218, Tryz.ntmps218
  go_wp2_with fail
  go_quiet (fail)
  have k1 : Kept [] w (w.drewN nq) := (Kept.refl _ _).drewN _
  generalize w.drewN nq = w1 at k1 ⊢
  go_wp2_with fail
  refine (isZero_c (HA.out.kept k1)).mono ?_
  rintro e wx ⟨rfl, rfl⟩
  rw [HZA.out]
  go_wp2_with fail
  refine (isZero_c (HB.out.kept k1)).mono ?_
  rintro e wx ⟨rfl, rfl⟩
  rw [HZB.out]
  have ga1 : w1.cell? ⟨PA, 1, none⟩ = _ := (k1.cells PA 1 H1a.out.lt).trans ga
  have gb1 : w1.cell? ⟨PB, 1, none⟩ = _ := (k1.cells PB 1 (by obtain ⟨_, _, _, _, h, _⟩ := HB.out; exact h.lt)).trans gb
  go_upto_region 13 with fail
  have HB0 : Blk (w1.alloc (Obj.cells (Array.replicate b.length (Value.int IntKind.i64 0)) 3)) w1.heap.size (List.replicate b.length (num 0)) 3 := Blk.of (by simp) (Blk.newA w1 _ 3)
  have k2 : Kept [] w (w1.alloc (Obj.cells (Array.replicate b.length (Value.int IntKind.i64 0)) 3)) := k1.alloc _
  have hDw := k1.size
  generalize w1.alloc (Obj.cells (Array.replicate b.length (Value.int IntKind.i64 0)) 3) = W at HB0 k2 ⊢
  generalize w1.heap.size = D at HB0 hDw ⊢
  obtain ⟨w3, hcp, hb3, hk3⟩ := run_copy_blk (P := Tryz.prog) (dT := 157) (sT := 157) (ty := 3) (elem := 3) Tryz.underlying157 (by kernel_rfl) HB0 (k2.blk HBb.out (by simp)) 0 ob b.length b.length (b.length - a.length) b.length (b.length - a.length) (Nat.min_eq_left (by omega)).symm (by simp) (by have := Hb4.out; rw [List.length_map]; omega)
    (by intro v hv; simp at hv; obtain ⟨x, _, rfl⟩ := hv; rfl)
  rw [← HTK.out] at hb3
  have k3 : Kept [] w w3 := k2.trans hk3 (by intro x hx hl; simp at hx; omega)
  clear hneq hmk
  have hDif : (b.length : Int) - a.length = ((b.length - a.length : Nat) : Int) := by omega
  go_wp2_with fail
  rw [hDif]
  clear hDif hcp
  go_loopw [10] (fun i wr => ∃ k : Nat, b.length - a.length ≤ k ∧ k ≤ b.length ∧ i = num k ∧ Kept [] w wr ∧ Blk wr D (mixed q k) 3) (fun i _ => b.length - (intOf i).toNat)
  case atStart => exact ⟨b.length - a.length, by omega, by omega, rfl, k3, hb3⟩
  case round =>
    obtain ⟨k, hk1, hk2, rfl, hkp, hbD⟩ := hrel
    have hk2i : (k : Int) ≤ b.length := by omega
    by_cases hlt : k < b.length
    · have hlti : (k : Int) < b.length := by omega
      have xl := HXb.out wr hkp k hlt
      have xs := HXa.out wr hkp (k - (b.length - a.length)) (by omega)
      have e1 : (k : Int) - ((b.length - a.length : Nat) : Int) = ((k - (b.length - a.length) : Nat) : Int) := by omega
      have HQK := Lib.hid (HQH.out k hk1 hlt)
      have u1 := hBDa.out (k - (b.length - a.length))
      have u2 := hBDb.out k
      generalize b.getD k 0 = vl at xl HQK u2
      obtain ⟨j, hj⟩ : ∃ j, k - (b.length - a.length) = j := ⟨_, rfl⟩
      have hjs : j < a.length := by omega
      have hjsi : (j : Int) < a.length := by omega
      have hw1 : IntKind.i64.wrap ((k : Int) - ((b.length - a.length : Nat) : Int)) = (j : Int) := by rw [IntKind.wrap_i64]; omega
      rw [hj] at xs e1 HQK u1
      clear hj e1
      generalize a.getD j 0 = vs at xs HQK u1
      have hD0 := hbD.at (mixed_at q k (by rw [HQL.out]; exact hlt))
      have hDf := hbD.free k
      go_wp2_with fail
      refine region_quiet_tail 13 (by kernel_rfl) (by kernel_rfl) ?_
      simp only [List.take_succ_cons, List.take_zero, List.drop_succ_cons, List.drop_zero]
      repeat (go_big_quiet_step (exact quiet_same (addOr_c vs vl u1 u2 _)))
      refine wpQuiet_nil ?_
      rintro _ ⟨nq, rfl⟩
      go_wp2_with fail
      go_roundw
      case rel =>
        refine ⟨k + 1, by omega, by omega, by go_num, ?_, ?_⟩
        · exact (hkp.drewN _).setCell (.inr hDw) _
        · rw [← mixed_set q k (by rw [HQL.out]; exact hlt), HQK.out]
          exact (hbD.drewN _).set k _
      case measure => simp [intOf]; omega
    · obtain rfl : k = b.length := by omega
      have hbq : Blk wr D (q.map num) 3 := by rw [← mixed_all, HQL.out]; exact hbD
      have fa1 : wr.cell? ⟨PA, 0, none⟩ = _ := (hkp.cells PA 0 H1a.out.lt).trans fa
      go_wp2_with fail
      refine (newPoly_n q F b.length hbq (by intro h; have := HQL.out; rw [h] at this; simp at this; omega) (by rw [HQL.out]; omega) HQL.out (by obtain ⟨_, _, _, _, _, h2, _, _, h3⟩ := HA.out; have := h2.lt; omega)).mono ?_
      rintro e w4 ⟨rfl, hp, hk4⟩
      go_wp2_with fail
      go_ret2
      exact ⟨⟨_, rfl, by rw [HQ.out]; exact hp⟩, hkp.trans0 hk4⟩
set_option maxRecDepth 100000 in
set_option maxHeartbeats 2000000 in
theorem addPoly_gt {w : World} {PA PB F : Nat} {a b : List Nat} (hA : PL w PA F a) (hB : PL w PB F b) (la : a.length ≤ 500) (lb : b.length ≤ 500) (ba : ∀ x ∈ a, x < 256) (bb : ∀ x ∈ b, x < 256)
    (za : isZ a = false) (zb : isZ b = false) (hle : b.length < a.length) : Calls Tryz.prog 218 #[ptv PA, ptv PB] w fun e w' => (∃ P, e = .returned (.tuple #[ptv P, .nilIface]) ∧ PL w' P F (strip (psum b a))) ∧ Kept [] w w' := by
  have HA := Lib.hid hA
  have HB := Lib.hid hB
  have HZA := Lib.hid za
  have HZB := Lib.hid zb
  clear za zb
  obtain ⟨Ca, na, oa, La, a1, a2, a3, a4⟩ := hA
  obtain ⟨Cb, nb, ob, Lb, b1, b2, b3, b4⟩ := hB
  have fa := a1.at (i := 0) rfl
  have ga := a1.at (i := 1) rfl
  have fb := b1.at (i := 0) rfl
  have gb := b1.at (i := 1) rfl
  have xa : ∀ (W : World), Kept [] w W → ∀ i, i < a.length → W.cell? ⟨Ca, oa + i, none⟩ = some (num (a.getD i 0)) := fun W hW i hi => PLc.cell (P := PA) (F := F) (hW.blk a2 (by simp)) a3 i _ (by rw [List.getD_eq_getElem?_getD, List.getElem?_eq_getElem hi]; rfl)
  have xb : ∀ (W : World), Kept [] w W → ∀ i, i < b.length → W.cell? ⟨Cb, ob + i, none⟩ = some (num (b.getD i 0)) := fun W hW i hi => PLc.cell (P := PB) (F := F) (hW.blk b2 (by simp)) b3 i _ (by rw [List.getD_eq_getElem?_getD, List.getElem?_eq_getElem hi]; rfl)
  have HXa := Lib.hid xa
  have HXb := Lib.hid xb
  have HBa := Lib.hid a2
  have HBb := Lib.hid b2
  have Ha3 := Lib.hid a3
  have Ha4 := Lib.hid a4
  have H1a := Lib.hid a1
  have hla1 : 1 ≤ a.length := by cases a with | nil => exact absurd rfl na | cons x r => simp
  have hlb1 : 1 ≤ b.length := by cases b with | nil => exact absurd rfl nb | cons x r => simp
  obtain ⟨q, hq⟩ : ∃ q, psum b a = q := ⟨_, rfl⟩
  have hql : q.length = a.length := by rw [← hq]; exact psum_len _ _ (by omega)
  have qlo : ∀ i, i < a.length - b.length → q.getD i 0 = a.getD i 0 := fun i hi => by rw [← hq]; exact psum_lo _ _ (by omega) i hi
  have qhi : ∀ i, a.length - b.length ≤ i → i < a.length → q.getD i 0 = b.getD (i - (a.length - b.length)) 0 ^^^ a.getD i 0 := fun i h1 h2 => by rw [← hq]; exact psum_hi _ _ (by omega) i h1 h2
  have HQH := Lib.hid qhi
  have HQ := Lib.hid hq
  have HQL := Lib.hid hql
  have HTK : Hid (mixed q (a.length - b.length) = (List.replicate a.length (num 0)).take 0 ++ (((La.map num).drop oa).take (a.length - b.length)) ++ (List.replicate a.length (num 0)).drop (0 + (a.length - b.length))) := Lib.hid (by
    unfold mixed
    rw [List.map_append, List.map_take, List.map_replicate, ← List.map_drop, a3, ← List.map_take, ← List.map_take]
    congr 1
    · rw [List.take_zero, List.nil_append]
      congr 1
      apply List.ext_getElem?
      intro i
      rcases Nat.lt_or_ge i (a.length - b.length) with h | h
      · rw [List.getElem?_take_of_lt h, List.getElem?_take_of_lt h]
        have := qlo i h
        rw [List.getD_eq_getElem?_getD, List.getD_eq_getElem?_getD, List.getElem?_eq_getElem (by omega), List.getElem?_eq_getElem (by omega)] at this
        rw [List.getElem?_eq_getElem (by omega), List.getElem?_eq_getElem (by omega)]
        simpa using this
      · rw [List.getElem?_eq_none (by simp; omega), List.getElem?_eq_none (by simp; omega)]
    · rw [List.drop_replicate, hql]; congr 1; omega)
  have lai : (a.length : Int) ≤ 500 := by omega
  have lbi : (b.length : Int) ≤ 500 := by omega
  have la1i : (1 : Int) ≤ a.length := by omega
  have lb1i : (1 : Int) ≤ b.length := by omega
  have hlei : (b.length : Int) < a.length := by omega
  have hdec : decide (b.length < a.length) = true := by rw [decide_eq_true_iff]; omega
  have hmk := mk_ints (a.length : Int) (a.length : Int) a.length a.length rfl rfl (by omega) (by omega)
  have hBDa := Lib.hid (getD_lt256 ba)
  have hBDb := Lib.hid (getD_lt256 bb)
  clear a1 a2 a3 a4 b1 b2 b3 b4 hq hql qlo qhi xa xb ba bb na nb
  have hneq := fun (W : World) => neq_field W ⟨F, 0, none⟩
  go_enter Tryz.func218, Tryz.ntmps218
  go_wp2_with fail
  go_quiet (fail)
  have k1 : Kept [] w (w.drewN nq) := (Kept.refl _ _).drewN _
  generalize w.drewN nq = w1 at k1 ⊢
  go_wp2_with fail
  refine (isZero_c (HA.out.kept k1)).mono ?_
  rintro e wx ⟨rfl, rfl⟩
  rw [HZA.out]
  go_wp2_with fail
  refine (isZero_c (HB.out.kept k1)).mono ?_
  rintro e wx ⟨rfl, rfl⟩
  rw [HZB.out]
  have ga1 : w1.cell? ⟨PA, 1, none⟩ = _ := (k1.cells PA 1 H1a.out.lt).trans ga
  have gb1 : w1.cell? ⟨PB, 1, none⟩ = _ := (k1.cells PB 1 (by obtain ⟨_, _, _, _, h, _⟩ := HB.out; exact h.lt)).trans gb
  go_upto_region 13 with fail
  have HB0 : Blk (w1.alloc (Obj.cells (Array.replicate a.length (Value.int IntKind.i64 0)) 3)) w1.heap.size (List.replicate a.length (num 0)) 3 := Blk.of (by simp) (Blk.newA w1 _ 3)
  have k2 : Kept [] w (w1.alloc (Obj.cells (Array.replicate a.length (Value.int IntKind.i64 0)) 3)) := k1.alloc _
  have hDw := k1.size
  generalize w1.alloc (Obj.cells (Array.replicate a.length (Value.int IntKind.i64 0)) 3) = W at HB0 k2 ⊢
  generalize w1.heap.size = D at HB0 hDw ⊢
  obtain ⟨w3, hcp, hb3, hk3⟩ := run_copy_blk (P := Tryz.prog) (dT := 157) (sT := 157) (ty := 3) (elem := 3) Tryz.underlying157 (by kernel_rfl) HB0 (k2.blk HBa.out (by simp)) 0 oa a.length a.length (a.length - b.length) a.length (a.length - b.length) (Nat.min_eq_left (by omega)).symm (by simp) (by have := Ha4.out; rw [List.length_map]; omega)
    (by intro v hv; simp at hv; obtain ⟨x, _, rfl⟩ := hv; rfl)
  rw [← HTK.out] at hb3
  have k3 : Kept [] w w3 := k2.trans hk3 (by intro x hx hl; simp at hx; omega)
  clear hneq hmk
  have hDif : (a.length : Int) - b.length = ((a.length - b.length : Nat) : Int) := by omega
  go_wp2_with fail
  rw [hDif]
  clear hDif hcp
  go_loopw [10] (fun i wr => ∃ k : Nat, a.length - b.length ≤ k ∧ k ≤ a.length ∧ i = num k ∧ Kept [] w wr ∧ Blk wr D (mixed q k) 3) (fun i _ => a.length - (intOf i).toNat)
  case atStart => exact ⟨a.length - b.length, by omega, by omega, rfl, k3, hb3⟩
  case round =>
    obtain ⟨k, hk1, hk2, rfl, hkp, hbD⟩ := hrel
    have hk2i : (k : Int) ≤ a.length := by omega
    by_cases hlt : k < a.length
    · have hlti : (k : Int) < a.length := by omega
      have xl := HXa.out wr hkp k hlt
      have xs := HXb.out wr hkp (k - (a.length - b.length)) (by omega)
      have e1 : (k : Int) - ((a.length - b.length : Nat) : Int) = ((k - (a.length - b.length) : Nat) : Int) := by omega
      have HQK := Lib.hid (HQH.out k hk1 hlt)
      have u1 := hBDb.out (k - (a.length - b.length))
      have u2 := hBDa.out k
      generalize a.getD k 0 = vl at xl HQK u2
      obtain ⟨j, hj⟩ : ∃ j, k - (a.length - b.length) = j := ⟨_, rfl⟩
      have hjs : j < b.length := by omega
      have hjsi : (j : Int) < b.length := by omega
      have hw1 : IntKind.i64.wrap ((k : Int) - ((a.length - b.length : Nat) : Int)) = (j : Int) := by rw [IntKind.wrap_i64]; omega
      rw [hj] at xs e1 HQK u1
      clear hj e1
      generalize b.getD j 0 = vs at xs HQK u1
      have hD0 := hbD.at (mixed_at q k (by rw [HQL.out]; exact hlt))
      have hDf := hbD.free k
      go_wp2_with fail
      refine region_quiet_tail 13 (by kernel_rfl) (by kernel_rfl) ?_
      simp only [List.take_succ_cons, List.take_zero, List.drop_succ_cons, List.drop_zero]
      repeat (go_big_quiet_step (exact quiet_same (addOr_c vs vl u1 u2 _)))
      refine wpQuiet_nil ?_
      rintro _ ⟨nq, rfl⟩
      go_wp2_with fail
      go_roundw
      case rel =>
        refine ⟨k + 1, by omega, by omega, by go_num, ?_, ?_⟩
        · exact (hkp.drewN _).setCell (.inr hDw) _
        · rw [← mixed_set q k (by rw [HQL.out]; exact hlt), HQK.out]
          exact (hbD.drewN _).set k _
      case measure => simp [intOf]; omega
    · obtain rfl : k = a.length := by omega
      have hbq : Blk wr D (q.map num) 3 := by rw [← mixed_all, HQL.out]; exact hbD
      have fa1 : wr.cell? ⟨PA, 0, none⟩ = _ := (hkp.cells PA 0 H1a.out.lt).trans fa
      go_wp2_with fail
      refine (newPoly_n q F a.length hbq (by intro h; have := HQL.out; rw [h] at this; simp at this; omega) (by rw [HQL.out]; omega) HQL.out (by obtain ⟨_, _, _, _, _, h2, _, _, h3⟩ := HA.out; have := h2.lt; omega)).mono ?_
      rintro e w4 ⟨rfl, hp, hk4⟩
      go_wp2_with fail
      go_ret2
      exact ⟨⟨_, rfl, by rw [HQ.out]; exact hp⟩, hkp.trans0 hk4⟩
end
end Go.Proofs.YtplpafbkalkchaaGreatDoor
