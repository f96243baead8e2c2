/- Walks: polynomials: the sum, with zeros too; times a monomial; a value. Walks: the product of two polynomials. -/
import Derived.Test.YtplpafbkalkchaaGreatDoorW04
namespace Go.Proofs.YtplpafbkalkchaaGreatDoor
open Go Go.RowKit Go.Proofs
set_option linter.all false

section
theorem PL.opens {w : World} {P F : Nat} {cs : List Nat} (h : PL w P F cs) : ∃ C o : Nat, 1 ≤ cs.length ∧ P < w.heap.size ∧
    Hid (∀ W, Kept [] w W → W.cell? ⟨P, 0, none⟩ = some (ptv F) ∧ W.cell? ⟨P, 1, none⟩ = some (.slice (some ⟨C, o, none⟩) cs.length cs.length) ∧ ∀ i, i < cs.length → W.cell? ⟨C, o + i, none⟩ = some (num (cs.getD i 0))) := by
  obtain ⟨C, hne, o, l, h1, h2, h3, h4⟩ := h
  refine ⟨C, o, by cases cs with | nil => exact absurd rfl hne | cons a r => simp, h1.lt, Lib.hid fun W hW => ⟨(hW.blk h1 (by simp)).at (i := 0) rfl, (hW.blk h1 (by simp)).at (i := 1) rfl, fun i hi => ?_⟩⟩
  exact PLc.cell (P := P) (F := F) (hW.blk h2 (by simp)) h3 i _ (by rw [List.getD_eq_getElem?_getD, List.getElem?_eq_getElem hi]; rfl)
set_option maxRecDepth 100000 in
theorem addPoly_z {w : World} {PA PB F : Nat} {a b : List Nat} (hA : PL w PA F a) (hB : PL w PB F b) (hz : isZ a = true ∨ isZ b = true) :
    Calls Tryz.prog 218 #[ptv PA, ptv PB] w fun e w' => (∃ P, e = .returned (.tuple #[ptv P, .nilIface]) ∧ PL w' P F (padd a b)) ∧ Kept [] w w' := by
  have HA := Lib.hid hA
  have HB := Lib.hid hB
  obtain ⟨Ca, oa, a1, a2, XA⟩ := hA.opens
  obtain ⟨Cb, ob, b1, b2, XB⟩ := hB.opens
  have fa := (XA.out w (Kept.refl _ _)).1
  have fb := (XB.out w (Kept.refl _ _)).1
  have hneq := fun (W : World) => neq_field W ⟨F, 0, none⟩
  cases hza : isZ a with
  | true =>
    have HP : Hid (padd a b = b) := Lib.hid (by unfold padd; rw [hza]; rfl)
    have HZ := Lib.hid hza
    clear hA hB hz hza
    go_enter Tryz.func218, Tryz.ntmps218
    go_wp2_with fail
    go_quiet (fail)
    have k1 : Kept [] w (w.drewN nq) := (Kept.refl _ _).drewN _
    generalize w.drewN nq = w1 at k1 ⊢
    go_wp2_with fail
    refine (isZero_c (HA.out.kept k1)).mono ?_
    rintro e wx ⟨rfl, rfl⟩
    rw [HZ.out]
    go_wp2_with fail
    go_ret2
    exact ⟨⟨PB, rfl, by rw [HP.out]; exact HB.out.kept k1⟩, k1⟩
  | false =>
    have hzb : isZ b = true := by rw [hza] at hz; simpa using hz
    have HP : Hid (padd a b = a) := Lib.hid (by unfold padd; rw [hza, hzb]; rfl)
    have HZ := Lib.hid hza
    have HZB := Lib.hid hzb
    clear hA hB hz hza hzb
    go_enter Tryz.func218, Tryz.ntmps218
    go_wp2_with fail
    go_quiet (fail)
    have k1 : Kept [] w (w.drewN nq) := (Kept.refl _ _).drewN _
    generalize w.drewN nq = w1 at k1 ⊢
    go_wp2_with fail
    refine (isZero_c (HA.out.kept k1)).mono ?_
    rintro e wx ⟨rfl, rfl⟩
    rw [HZ.out]
    go_wp2_with fail
    refine (isZero_c (HB.out.kept k1)).mono ?_
    rintro e wx ⟨rfl, rfl⟩
    rw [HZB.out]
    go_wp2_with fail
    go_ret2
    exact ⟨⟨PA, rfl, by rw [HP.out]; exact HA.out.kept k1⟩, k1⟩
theorem addPoly_c {w : World} {PA PB F : Nat} {a b : List Nat} (hA : PL w PA F a) (hB : PL w PB F b) (la : a.length ≤ 500) (lb : b.length ≤ 500) (ba : ∀ x ∈ a, x < 256) (bb : ∀ x ∈ b, x < 256) :
    Calls Tryz.prog 218 #[ptv PA, ptv PB] w fun e w' => (∃ P, e = .returned (.tuple #[ptv P, .nilIface]) ∧ PL w' P F (padd a b)) ∧ Kept [] w w' := by
  cases hza : isZ a with
  | true => exact addPoly_z hA hB (.inl hza)
  | false =>
    cases hzb : isZ b with
    | true => exact addPoly_z hA hB (.inr hzb)
    | false =>
      by_cases hle : a.length ≤ b.length
      · have : padd a b = strip (psum a b) := by unfold padd; rw [hza, hzb, if_pos hle]; rfl
        rw [this]; exact addPoly_le hA hB la lb ba bb hza hzb hle
      · have : padd a b = strip (psum b a) := by unfold padd; rw [hza, hzb, if_neg hle]; rfl
        rw [this]; exact addPoly_gt hA hB la lb ba bb hza hzb (by omega)
/-- Times c, with d zeros behind. -/
def scaled (cs : List Nat) (d c : Nat) : List Nat := cs.map (fun x => gmul x c) ++ List.replicate d 0
def mulMono (cs : List Nat) (d c : Nat) : List Nat := if c = 0 then [0] else strip (scaled cs d c)
theorem scaled_len (cs : List Nat) (d c : Nat) : (scaled cs d c).length = cs.length + d := by unfold scaled; simp
theorem scaled_at (cs : List Nat) (d c i : Nat) (h : i < cs.length) : (scaled cs d c).getD i 0 = gmul (cs.getD i 0) c := by
  unfold scaled
  rw [List.getD_eq_getElem?_getD, List.getD_eq_getElem?_getD, List.getElem?_append_left (by simpa using h), List.getElem?_map, List.getElem?_eq_getElem h]; rfl
theorem scaled_mixed (cs : List Nat) (d c : Nat) : mixed (scaled cs d c) cs.length = (scaled cs d c).map num := by
  unfold mixed
  congr 1
  unfold scaled
  rw [List.take_append_of_le_length (by simp)]
  simp
  rw [List.take_of_length_le (by simp)]
set_option maxRecDepth 100000 in
set_option maxHeartbeats 1000000 in
theorem mulMono_c {w : World} {F lo P : Nat} {cs : List Nat} (h : GF w F lo) (hP : PL w P F cs) (hl : cs.length ≤ 300) (hb : ∀ x ∈ cs, x < 256) (d c : Nat) (hd : d ≤ 200) (hc : c < 256) :
    Calls Tryz.prog 175 #[ptv P, num d, num c] w fun e w' => (∃ P', e = .returned (.tuple #[ptv P', .nilIface]) ∧ PL w' P' F (mulMono cs d c)) ∧ Kept [] w w' := by
  have hdi : (d : Int) ≤ 200 := by omega
  have hci : (c : Int) < 256 := by omega
  have hli : (cs.length : Int) ≤ 300 := by omega
  obtain ⟨C, o, hl1, hPl, XP⟩ := hP.opens
  have hl1i : (1 : Int) ≤ cs.length := by omega
  have fP := XP.out w (Kept.refl _ _)
  have f0 := fP.1
  have f1 := fP.2.1
  have HG := Lib.hid h
  by_cases h0 : c = 0
  · subst h0
    have HZ := Lib.hid h.zero
    have HAT := Lib.hid h.at_
    clear h hP fP
    go_enter Tryz.func175, Tryz.ntmps175
    go_wp2_with fail
    refine (zero_c HG.out).mono ?_
    rintro e wx ⟨rfl, rfl⟩
    go_wp2_with fail
    go_ret2
    exact ⟨⟨_, rfl, ⟨_, by have := HZ.out; rw [HAT.out]; exact this⟩⟩, Kept.refl _ _⟩
  · have hcb : ((c : Int) == 0) = false := by simpa using h0
    have HM : Hid (mulMono cs d c = strip (scaled cs d c)) := Lib.hid (by unfold mulMono; rw [if_neg h0])
    obtain ⟨q, hq⟩ : ∃ q, scaled cs d c = q := ⟨_, rfl⟩
    have HQL : Hid (q.length = cs.length + d) := Lib.hid (by rw [← hq]; exact scaled_len _ _ _)
    have HQA : Hid (∀ i, i < cs.length → q.getD i 0 = gmul (cs.getD i 0) c) := Lib.hid (fun i hi => by rw [← hq]; exact scaled_at _ _ _ i hi)
    have HQM : Hid (mixed q cs.length = q.map num) := Lib.hid (by rw [← hq]; exact scaled_mixed _ _ _)
    have HQ := Lib.hid hq
    have HB := Lib.hid (getD_lt256 hb)
    have hmk := mk_ints ((cs.length : Int) + d) ((cs.length : Int) + d) (cs.length + d) (cs.length + d) (by omega) (by omega) (by omega) (by omega)
    clear h0 hq hb h hP fP
    go_enter Tryz.func175, Tryz.ntmps175
    go_wp2_with fail
    have HB0 : Blk (w.alloc (Obj.cells (Array.replicate (cs.length + d) (Value.int IntKind.i64 0)) 3)) w.heap.size (mixed q 0) 3 :=
      Blk.of (by unfold mixed; rw [HQL.out]; simp) (Blk.newA w _ 3)
    have k0 : Kept [] w (w.alloc (Obj.cells (Array.replicate (cs.length + d) (Value.int IntKind.i64 0)) 3)) := (Kept.refl _ _).alloc _
    have hD : w.heap.size ≤ w.heap.size := Nat.le_refl _
    generalize w.alloc (Obj.cells (Array.replicate (cs.length + d) (Value.int IntKind.i64 0)) 3) = W at HB0 k0 ⊢
    generalize hDD : w.heap.size = D at HB0 ⊢
    have HDD : w.heap.size ≤ D := by omega
    clear hDD hD hmk
    go_loopw [10] (fun i wr => ∃ k : Nat, k ≤ cs.length ∧ i = num k ∧ Kept [] w wr ∧ Blk wr D (mixed q k) 3) (fun i _ => cs.length - (intOf i).toNat)
    case atStart => exact ⟨0, by omega, rfl, k0, HB0⟩
    case round =>
      obtain ⟨k, hk, rfl, hkp, hbD⟩ := hrel
      have hki : (k : Int) ≤ cs.length := by omega
      by_cases hlt : k < cs.length
      · have hlti : (k : Int) < cs.length := by omega
        have hfull : k < cs.length + d := by omega
        have hfulli : (k : Int) < (cs.length : Int) + d := by omega
        have hx := XP.out wr hkp
        have g0 := hx.1
        have g1 := hx.2.1
        have g2 := hx.2.2 k hlt
        clear hx
        have HQK := Lib.hid (HQA.out k hlt)
        have hx9 := HB.out k
        generalize cs.getD k 0 = x at g2 HQK hx9
        have hDf := hbD.free k
        have hD0 := hbD.at (mixed_at q k (by rw [HQL.out]; omega))
        go_wp2_with fail
        refine region_quiet_tail 15 (by kernel_rfl) (by kernel_rfl) ?_
        simp only [List.take_succ_cons, List.take_zero, List.drop_succ_cons, List.drop_zero]
        repeat (go_big_quiet_step (exact Calls.quiet_of (mul_c ((HG.out.kept0 hkp).kept0 ((Kept.refl [] wr).drewN _)) x c hx9 hc)))
        refine wpQuiet_nil ?_
        rintro _ ⟨nq, rfl⟩
        go_wp2_with fail
        go_roundw
        case rel =>
          refine ⟨k + 1, by omega, by go_num, (hkp.drewN _).setCell (.inr HDD) _, ?_⟩
          rw [← mixed_set q k (by rw [HQL.out]; omega), HQK.out]
          exact (hbD.drewN _).set k _
        case measure => simp [intOf]; omega
      · obtain rfl : k = cs.length := by omega
        have hx := (XP.out wr hkp).1
        have hbq : Blk wr D (q.map num) 3 := by rw [← HQM.out]; exact hbD
        go_wp2_with fail
        refine (newPoly_n q F (cs.length + d) hbq (by intro h; have := HQL.out; rw [h] at this; simp at this; omega) (by rw [HQL.out]; omega) HQL.out (by have h1 := HG.out.at_; have h2 := HG.out.self.lt; omega)).mono ?_
        rintro e w4 ⟨rfl, hp, hk4⟩
        go_wp2_with fail
        go_ret2
        exact ⟨⟨_, rfl, by rw [HM.out, HQ.out]; exact hp⟩, hkp.trans0 hk4⟩
/-- The value at a. -/
def evalP (cs : List Nat) (a : Nat) : Nat := cs.foldl (fun r c => gmul a r ^^^ c) 0
theorem evalP_snoc (cs : List Nat) (c a : Nat) : evalP (cs ++ [c]) a = gmul a (evalP cs a) ^^^ c := by unfold evalP; rw [List.foldl_append]; rfl
theorem evalP_lt {cs : List Nat} (h : ∀ x ∈ cs, x < 256) (a : Nat) : evalP cs a < 256 := by
  rcases List.eq_nil_or_concat cs with rfl | ⟨l, c, rfl⟩
  · simp [evalP]
  · rw [List.concat_eq_append] at h ⊢
    rw [evalP_snoc]
    exact Nat.xor_lt_two_pow (n := 8) (gmul_bd _ _) (h c (by simp))
set_option maxRecDepth 100000 in
theorem gmul_one : ∀ r, r < 256 → gmul 1 r = r := by decide
theorem evalP_take {cs : List Nat} (k a : Nat) (h : k < cs.length) : evalP (cs.take (k + 1)) a = gmul a (evalP (cs.take k) a) ^^^ cs.getD k 0 := by
  rw [List.take_succ_eq_append_getElem h, evalP_snoc, List.getD_eq_getElem?_getD, List.getElem?_eq_getElem h]; rfl
theorem take_lt256 {cs : List Nat} (h : ∀ x ∈ cs, x < 256) (k : Nat) : ∀ x ∈ cs.take k, x < 256 := fun x hx => h x (List.mem_of_mem_take hx)
set_option maxRecDepth 100000 in
set_option maxHeartbeats 1000000 in
theorem eval_c {w : World} {F lo P : Nat} {cs : List Nat} (h : GF w F lo) (hP : PL w P F cs) (hl : cs.length ≤ 300) (hb : ∀ x ∈ cs, x < 256) (a : Nat) (ha : a < 256) (ha1 : 1 ≤ a) :
    Calls Tryz.prog 257 #[ptv P, num a] w fun e w' => e = .returned (num (evalP cs a)) ∧ Kept [] w w' := by
  have hai : (a : Int) < 256 := by omega
  have ha0 : ((a : Int) == 0) = false := by simp; omega
  have hli : (cs.length : Int) ≤ 300 := by omega
  obtain ⟨C, o, hl1, hPl, XP⟩ := hP.opens
  have hl1i : (1 : Int) ≤ cs.length := by omega
  have fP := XP.out w (Kept.refl _ _)
  have f0 := fP.1
  have f1 := fP.2.1
  have f2 := fP.2.2 0 (by omega)
  rw [Nat.add_zero] at f2
  have HG := Lib.hid h
  have HB := Lib.hid hb
  clear fP h hb hP
  by_cases h1 : a = 1
  · subst h1
    clear f2
    go_enter Tryz.func257, Tryz.ntmps257
    go_wp2_with fail
    go_loopw [5, 22] (fun t i wr => ∃ k : Nat, k ≤ cs.length ∧ i = num k ∧ t = num (evalP (cs.take k) 1) ∧ w = wr) (fun _ i _ => cs.length - (intOf i).toNat)
    case atStart => exact ⟨0, by omega, rfl, rfl, rfl⟩
    case round =>
      obtain ⟨k, hk, rfl, rfl, rfl⟩ := hrel
      have hki : (k : Int) ≤ cs.length := by omega
      by_cases hlt : k < cs.length
      · have hlti : (k : Int) < cs.length := by omega
        have g2 := (XP.out w (Kept.refl _ _)).2.2 k hlt
        have HE : Hid (evalP (cs.take (k + 1)) 1 = evalP (cs.take k) 1 ^^^ cs.getD k 0) := Lib.hid (by rw [evalP_take k 1 hlt, gmul_one _ (evalP_lt (take_lt256 HB.out k) 1)])
        have hx1 := evalP_lt (take_lt256 HB.out k) 1
        have hx2 := getD_lt256 HB.out k
        generalize evalP (cs.take k) 1 = u at HE hx1 ⊢
        generalize cs.getD k 0 = v at HE hx2 g2
        go_wp2_with fail
        refine (addOr_c u v hx1 hx2 _).mono ?_
        rintro e wx ⟨rfl, rfl⟩
        go_wp2_with fail
        go_roundw
        case rel => exact ⟨k + 1, by omega, by go_num, by rw [HE.out], trivial⟩
        case measure => simp [intOf]; omega
      · obtain rfl : k = cs.length := by omega
        rw [List.take_length]
        go_wp2_with fail
        go_ret
        exact ⟨rfl, Kept.refl _ _⟩
  · have ha1 : ((a : Int) == 1) = false := by simp; omega
    clear h1
    have HE0 : Hid (evalP (cs.take 1) a = cs.getD 0 0) := Lib.hid (by rw [evalP_take 0 a (by omega)]; simp [evalP, gmul])
    go_enter Tryz.func257, Tryz.ntmps257
    go_wp2_with fail
    go_loopw [8, 10] (fun t i wr => ∃ k : Nat, 1 ≤ k ∧ k ≤ cs.length ∧ i = num k ∧ t = num (evalP (cs.take k) a) ∧ Kept [] w wr) (fun _ i _ => cs.length - (intOf i).toNat)
    case atStart => exact ⟨1, by omega, by omega, rfl, by rw [HE0.out, List.getD_eq_getElem?_getD], Kept.refl _ _⟩
    case round =>
      obtain ⟨k, hk1, hk, rfl, rfl, hkp⟩ := hrel
      have hki : (k : Int) ≤ cs.length := by omega
      by_cases hlt : k < cs.length
      · have hlti : (k : Int) < cs.length := by omega
        have hx := XP.out wr hkp
        have g0 := hx.1
        have g1 := hx.2.1
        have g2 := hx.2.2 k hlt
        clear hx
        have HE : Hid (evalP (cs.take (k + 1)) a = gmul a (evalP (cs.take k) a) ^^^ cs.getD k 0) := Lib.hid (evalP_take k a hlt)
        have hx1 := evalP_lt (take_lt256 HB.out k) a
        have hx2 := getD_lt256 HB.out k
        generalize evalP (cs.take k) a = u at HE hx1 ⊢
        generalize cs.getD k 0 = v at HE hx2 g2
        go_wp2_with fail
        go_quiet ((first | exact Calls.quiet_of (mul_c ((HG.out.kept0 hkp).kept0 ((Kept.refl [] wr).drewN _)) a u ha hx1) | exact quiet_same (addOr_c _ v (gmul_bd a u) hx2 _)))
        go_wp2_with fail
        go_roundw
        case rel => exact ⟨k + 1, by omega, by omega, by go_num, by rw [HE.out], hkp.drewN _⟩
        case measure => simp [intOf]; omega
      · obtain rfl : k = cs.length := by omega
        rw [List.take_length]
        go_wp2_with fail
        go_ret
        exact ⟨rfl, hkp⟩
end

section
def addAt (q : List Nat) (k v : Nat) : List Nat := q.set k (q.getD k 0 ^^^ v)
/-- One row of a product: x times the first j numbers of bs, from place i on. -/
def rowTo (x : Nat) (bs : List Nat) (i : Nat) (q : List Nat) : Nat → List Nat
  | 0 => q
  | j + 1 => addAt (rowTo x bs i q j) (i + j) (gmul x (bs.getD j 0))
def pmulTo (az bs : List Nat) : Nat → List Nat
  | 0 => List.replicate (az.length + bs.length - 1) 0
  | i + 1 => rowTo (az.getD i 0) bs i (pmulTo az bs i) bs.length
def pmul (az bs : List Nat) : List Nat := if isZ az || isZ bs then [0] else strip (pmulTo az bs az.length)
theorem rowTo_len (x : Nat) (bs : List Nat) (i : Nat) (q : List Nat) (j : Nat) : (rowTo x bs i q j).length = q.length := by
  induction j with
  | zero => rfl
  | succ j ih => unfold rowTo addAt; rw [List.length_set, ih]
theorem pmulTo_len (az bs : List Nat) (i : Nat) : (pmulTo az bs i).length = az.length + bs.length - 1 := by
  induction i with
  | zero => simp [pmulTo]
  | succ i ih => unfold pmulTo; rw [rowTo_len, ih]
theorem addAt_lt {q : List Nat} (h : ∀ x ∈ q, x < 256) (k v : Nat) (hv : v < 256) : ∀ x ∈ addAt q k v, x < 256 := by
  intro x hx
  unfold addAt at hx
  rcases List.mem_or_eq_of_mem_set hx with hx | rfl
  · exact h x hx
  · exact Nat.xor_lt_two_pow (n := 8) (getD_lt256 h k) hv
theorem rowTo_lt {x : Nat} {bs : List Nat} {i : Nat} {q : List Nat} (h : ∀ x ∈ q, x < 256) (j : Nat) : ∀ y ∈ rowTo x bs i q j, y < 256 := by
  induction j with
  | zero => exact h
  | succ j ih => unfold rowTo; exact addAt_lt ih _ _ (gmul_bd _ _)
theorem pmulTo_lt (az bs : List Nat) (i : Nat) : ∀ y ∈ pmulTo az bs i, y < 256 := by
  induction i with
  | zero => intro y hy; simp [pmulTo] at hy; omega
  | succ i ih => unfold pmulTo; exact rowTo_lt ih _
theorem map_addAt (q : List Nat) (k v : Nat) : (q.map num).set k (num (q.getD k 0 ^^^ v)) = (addAt q k v).map num := by unfold addAt; rw [List.map_set]
set_option maxRecDepth 100000 in
set_option maxHeartbeats 2000000 in
theorem mulPoly_c {w : World} {F lo PA PB : Nat} {a b : List Nat} (h : GF w F lo) (hA : PL w PA F a) (hB : PL w PB F b) (la : a.length ≤ 200) (lb : b.length ≤ 200) (ba : ∀ x ∈ a, x < 256) (bb : ∀ x ∈ b, x < 256)
    (hza : isZ a = false) (hzb : isZ b = false) :
    Calls Tryz.prog 210 #[ptv PA, ptv PB] w fun e w' => (∃ P, e = .returned (.tuple #[ptv P, .nilIface]) ∧ PL w' P F (pmul a b)) ∧ Kept [] w w' := by
  have HM : Hid (pmul a b = strip (pmulTo a b a.length)) := Lib.hid (by unfold pmul; rw [hza, hzb]; rfl)
  have HZA := Lib.hid hza
  have HZB := Lib.hid hzb
  have HG := Lib.hid h
  have HA := Lib.hid hA
  have HB := Lib.hid hB
  have HBA := Lib.hid (getD_lt256 ba)
  have HBB := Lib.hid (getD_lt256 bb)
  obtain ⟨Ca, oa, a1, a2, XA⟩ := hA.opens
  obtain ⟨Cb, ob, b1, b2, XB⟩ := hB.opens
  have fa := (XA.out w (Kept.refl _ _)).1
  have fb := (XB.out w (Kept.refl _ _)).1
  have hneq := fun (W : World) => neq_field W ⟨F, 0, none⟩
  have lai : (a.length : Int) ≤ 200 := by omega
  have lbi : (b.length : Int) ≤ 200 := by omega
  have a1i : (1 : Int) ≤ a.length := by omega
  have b1i : (1 : Int) ≤ b.length := by omega
  have hmk := mk_ints ((a.length : Int) + b.length - 1) ((a.length : Int) + b.length - 1) (a.length + b.length - 1) (a.length + b.length - 1) (by omega) (by omega) (by omega) (by omega)
  clear h hA hB hza hzb ba bb
  go_enter Tryz.func210, Tryz.ntmps210
  go_wp2_with fail
  go_quiet (fail)
  have k1 : Kept [] w (w.drewN nq) := (Kept.refl _ _).drewN _
  generalize w.drewN nq = w1 at k1 ⊢
  go_wp2_with fail
  refine (isZero_c (HA.out.kept k1)).mono ?_
  rintro e wx ⟨rfl, rfl⟩
  rw [HZA.out]
  go_wp2_with fail
  refine (isZero_c (HB.out.kept k1)).mono ?_
  rintro e wx ⟨rfl, rfl⟩
  rw [HZB.out]
  have ga1 := (XA.out w1 k1).2.1
  have gb1 := (XB.out w1 k1).2.1
  go_wp2_with fail
  have HB0 : Blk (w1.alloc (Obj.cells (Array.replicate (a.length + b.length - 1) (Value.int IntKind.i64 0)) 3)) w1.heap.size ((pmulTo a b 0).map num) 3 :=
    Blk.of (by unfold pmulTo; simp) (Blk.newA w1 _ 3)
  have k2 : Kept [] w (w1.alloc (Obj.cells (Array.replicate (a.length + b.length - 1) (Value.int IntKind.i64 0)) 3)) := k1.alloc _
  have hDw := k1.size
  generalize w1.alloc (Obj.cells (Array.replicate (a.length + b.length - 1) (Value.int IntKind.i64 0)) 3) = W at HB0 k2 ⊢
  generalize w1.heap.size = D at HB0 hDw ⊢
  clear hneq hmk ga1 gb1 fa fb
  go_loopw [11] (fun i wr => ∃ k : Nat, k ≤ a.length ∧ i = num k ∧ Kept [] w wr ∧ Blk wr D ((pmulTo a b k).map num) 3) (fun i _ => a.length - (intOf i).toNat)
  case atStart => exact ⟨0, by omega, rfl, k2, HB0⟩
  case round =>
    obtain ⟨k, hk, rfl, hkp, hbD⟩ := hrel
    have hki : (k : Int) ≤ a.length := by omega
    obtain ⟨wo, rfl⟩ : ∃ wo : World, wo = wr := ⟨_, rfl⟩
    by_cases hlt : k < a.length
    · have hlti : (k : Int) < a.length := by omega
      have g2 := (XA.out wo hkp).2.2 k hlt
      have hx9 := HBA.out k
      have HS : Hid (pmulTo a b (k + 1) = rowTo (a.getD k 0) b k (pmulTo a b k) b.length) := Lib.hid rfl
      generalize a.getD k 0 = x at g2 hx9 HS
      obtain ⟨q, hq⟩ : ∃ q, pmulTo a b k = q := ⟨_, rfl⟩
      have HQL : Hid (q.length = a.length + b.length - 1) := Lib.hid (by rw [← hq]; exact pmulTo_len _ _ _)
      have HQB : Hid (∀ y ∈ q, y < 256) := Lib.hid (by rw [← hq]; exact pmulTo_lt _ _ _)
      rw [hq] at hbD HS
      clear hq
      go_wp2_with fail
      go_loopw [13] (fun i wr => ∃ j : Nat, j ≤ b.length ∧ i = num j ∧ Kept [] w wr ∧ Blk wr D ((rowTo x b k q j).map num) 3) (fun i _ => b.length - (intOf i).toNat)
      case atStart => exact ⟨0, by omega, rfl, hkp, hbD⟩
      case round =>
        obtain ⟨j, hj, rfl, hkj, hbj⟩ := hrel
        have hji : (j : Int) ≤ b.length := by omega
        by_cases hjl : j < b.length
        · have hjli : (j : Int) < b.length := by omega
          have hkj1 : k + j < a.length + b.length - 1 := by omega
          have hkj2 : (k : Int) + j < (a.length : Int) + b.length - 1 := by omega
          have hkj3 : ((k + j : Nat) : Int) < ((a.length + b.length - 1 : Nat) : Int) := by omega
          have g0 := (XA.out wr hkj).1
          have g1 := (XB.out wr hkj).2.1
          have g3 := (XB.out wr hkj).2.2 j hjl
          have hy9 := HBB.out j
          have HR : Hid (rowTo x b k q (j + 1) = addAt (rowTo x b k q j) (k + j) (gmul x (b.getD j 0))) := Lib.hid rfl
          generalize b.getD j 0 = y at g3 hy9 HR
          have hz9 := getD_lt256 (rowTo_lt (x := x) (bs := b) (i := k) HQB.out j) (k + j)
          have g4 := cs_cell hbj (k + j) (by rw [rowTo_len, HQL.out]; omega)
          have hDf := hbj.free (k + j)
          have HMA := Lib.hid (map_addAt (rowTo x b k q j) (k + j) (gmul x y))
          generalize (rowTo x b k q j).getD (k + j) 0 = z at hz9 g4 HMA
          have hw1 : IntKind.i64.wrap ((k : Int) + j) = (k : Int) + j := by rw [IntKind.wrap_i64]; omega
          go_wp2_with fail
          refine region_quiet_tail 21 (by kernel_rfl) (by kernel_rfl) ?_
          simp only [List.take_succ_cons, List.take_zero, List.drop_succ_cons, List.drop_zero]
          repeat (go_big_quiet_step ((first | exact Calls.quiet_of (mul_c ((HG.out.kept0 hkj).kept0 ((Kept.refl [] wr).drewN _)) x y hx9 hy9) | exact quiet_same (addOr_c z _ hz9 (gmul_bd x y) _))))
          refine wpQuiet_nil ?_
          rintro _ ⟨nq, rfl⟩
          go_wp2_with fail
          go_roundw
          case rel =>
            refine ⟨j + 1, by omega, by go_num, (hkj.drewN _).setCell (.inr hDw) _, ?_⟩
            rw [HR.out, ← HMA.out]
            exact (hbj.drewN _).set (k + j) _
          case measure => simp [intOf]; omega
        · obtain rfl : j = b.length := by omega
          go_wp2_with fail
          go_roundw
          case rel => exact ⟨k + 1, by omega, by go_num, hkj, by rw [HS.out]; exact hbj⟩
          case measure => simp [intOf]; omega
    · obtain rfl : k = a.length := by omega
      have fa1 := (XA.out wo hkp).1
      have hln := pmulTo_len a b a.length
      go_wp2_with fail
      refine (newPoly_n (pmulTo a b a.length) F (a.length + b.length - 1) hbD (by intro h; rw [h] at hln; simp at hln; omega) (by rw [hln]; omega) hln (by have h1 := HG.out.at_; have h2 := HG.out.self.lt; omega)).mono ?_
      rintro e w4 ⟨rfl, hp, hk4⟩
      go_wp2_with fail
      go_ret2
      exact ⟨⟨_, rfl, by rw [HM.out]; exact hp⟩, hkp.trans0 hk4⟩
end
end Go.Proofs.YtplpafbkalkchaaGreatDoor
