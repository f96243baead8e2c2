/- A region of a function, by its number. The two chains of tests of the third penalty, each over a frame that is a variable. (Printed by gen_s4.py.) Walks: the penalty of corner-like stretches. (Printed by gen_p3.py.) -/
import Derived.Deep.CutRange
import Derived.Test.YtplpafbkalkchaaGreatDoorW19
namespace Go.Proofs.YtplpafbkalkchaaGreatDoor
open Go Go.RowKit Go.Proofs
set_option linter.all false

section
/-- The operations of the region with this number. -/
noncomputable def regionOf (n : Nat) : Code → Option (List Oper)
  | .region id ops _ => if id = n then some ops.toList else none
  | .seq a b => (regionOf n a).orElse fun _ => regionOf n b
  | .cond _ a b => (regionOf n a).orElse fun _ => regionOf n b
  | .loop c => regionOf n c
  | .block _ c => regionOf n c
  | _ => none
end

section
noncomputable def r12 : List Oper := (Tryz.f144.body.bind (regionOf 12)).getD []
set_option maxRecDepth 100000 in
set_option maxHeartbeats 8000000 in
theorem chainH {Q : Exit → Act → World → Prop} {a : Act} {w : World} {B R n i j : Nat} {M : Nat → Nat → Int} (hB : BM w B R n M) (hn : n ≤ 200) (hlt : i < n) (hjt : j < n)
    (h4 : a.tmps[4]?.getD undef = slv R n n) (h5 : a.tmps[5]?.getD undef = intv n) (h6 : a.tmps[6]?.getD undef = intv n) (h7 : a.tmps[7]?.getD undef = intv i) (h8 : a.tmps[8]?.getD undef = intv j) (h9 : a.tmps[9]?.getD undef = slv (R + 1 + i) n n)
    (hsz : a.tmps.size = 207) (h : ∀ b d, Turned 30 104 a b → b.tmps[103]?.getD undef = .bool d → Q .normal b w) : Code.wp Tryz.prog (Code.region 12 r12.toArray false) Q a w := by
  refine wp_region_lit ?_
  refine n_step rfl rfl (by rw [hsz]; omega) (run_move a w _ _ _ _ _ _) fun a1 y1 f1 => ?_
  refine n_step rfl rfl (by rw [y1.size]; rw [hsz]; omega) (run_add a1 w _ _ _ _ _ _ j (f1.trans h8) (by omega) 6 (by omega)) fun a2 y2 f2 => ?_
  have T1 := (Turned.refl 30 30 _).step y1 rfl (by omega)
  have T2 := T1.step y2 rfl (by omega)
  refine n_step rfl rfl (by rw [T2.size]; rw [hsz]; omega) (run_move a2 w _ _ _ _ _ _) fun a3 y3 f3 => ?_
  have T3 := T2.step y3 rfl (by omega)
  replace f3 : a3.tmps[32]?.getD undef = intv n := f3.trans ((T2.slot 5 (by omega)).trans h5)
  refine n_step rfl rfl (by rw [T3.size]; rw [hsz]; omega) (run_lss a3 w _ _ _ _ _ _ _ (j + 6) n ((y3.slot _ (by omega)).trans f2) f3) fun a4 y4 f4 => ?_
  have T4 := T3.step y4 rfl (by omega)
  refine n_step rfl rfl (by rw [T4.size]; rw [hsz]; omega) (run_move a4 w _ _ _ _ _ _) fun a5 y5 f5 => ?_
  have T5 := T4.step y5 rfl (by omega)
  replace f5 := f5.trans f4
  have c5 : decide (j + 6 < n) = true → j + 6 < n := by simp
  refine stageH0 (s := 35) (r := 9) (x := 8) (R + 1 + i) n j (M i j) rfl f5 ((T5.slot 9 (by omega)).trans h9) ((T5.slot 8 (by omega)).trans h8) (by omega) (fun h => by have := c5 h; omega) (fun h => (hB.row i hlt).at (rowOf_get _ (by omega))) (by omega) (by omega) (by omega) (by rw [T5.size]; rw [hsz]; omega) fun b0 d0 Y0 g0 i0 => ?_
  have S0 := T5.join Y0 rfl (by omega)
  have k0 := fun h => c5 (i0 h)
  refine stageH (s := 42) (r := 9) (x := 8) (R + 1 + i) n j 1 (M i (j + 1)) rfl g0 ((S0.slot 9 (by omega)).trans h9) ((S0.slot 8 (by omega)).trans h8) (by omega) rfl (by omega) (fun h => by have := k0 h; omega) (fun h => (hB.row i hlt).at (rowOf_get _ (by have := k0 h; omega))) (by omega) (by omega) (by omega) (by rw [S0.size]; rw [hsz]; omega) fun b1 d1 Y1 g1 i1 => ?_
  have S1 := S0.join Y1 rfl (by omega)
  have k1 := fun h => k0 (i1 h)
  refine stageH (s := 50) (r := 9) (x := 8) (R + 1 + i) n j 2 (M i (j + 2)) rfl g1 ((S1.slot 9 (by omega)).trans h9) ((S1.slot 8 (by omega)).trans h8) (by omega) rfl (by omega) (fun h => by have := k1 h; omega) (fun h => (hB.row i hlt).at (rowOf_get _ (by have := k1 h; omega))) (by omega) (by omega) (by omega) (by rw [S1.size]; rw [hsz]; omega) fun b2 d2 Y2 g2 i2 => ?_
  have S2 := S1.join Y2 rfl (by omega)
  have k2 := fun h => k1 (i2 h)
  refine stageH (s := 58) (r := 9) (x := 8) (R + 1 + i) n j 3 (M i (j + 3)) rfl g2 ((S2.slot 9 (by omega)).trans h9) ((S2.slot 8 (by omega)).trans h8) (by omega) rfl (by omega) (fun h => by have := k2 h; omega) (fun h => (hB.row i hlt).at (rowOf_get _ (by have := k2 h; omega))) (by omega) (by omega) (by omega) (by rw [S2.size]; rw [hsz]; omega) fun b3 d3 Y3 g3 i3 => ?_
  have S3 := S2.join Y3 rfl (by omega)
  have k3 := fun h => k2 (i3 h)
  refine stageH (s := 66) (r := 9) (x := 8) (R + 1 + i) n j 4 (M i (j + 4)) rfl g3 ((S3.slot 9 (by omega)).trans h9) ((S3.slot 8 (by omega)).trans h8) (by omega) rfl (by omega) (fun h => by have := k3 h; omega) (fun h => (hB.row i hlt).at (rowOf_get _ (by have := k3 h; omega))) (by omega) (by omega) (by omega) (by rw [S3.size]; rw [hsz]; omega) fun b4 d4 Y4 g4 i4 => ?_
  have S4 := S3.join Y4 rfl (by omega)
  have k4 := fun h => k3 (i4 h)
  refine stageH (s := 74) (r := 9) (x := 8) (R + 1 + i) n j 5 (M i (j + 5)) rfl g4 ((S4.slot 9 (by omega)).trans h9) ((S4.slot 8 (by omega)).trans h8) (by omega) rfl (by omega) (fun h => by have := k4 h; omega) (fun h => (hB.row i hlt).at (rowOf_get _ (by have := k4 h; omega))) (by omega) (by omega) (by omega) (by rw [S4.size]; rw [hsz]; omega) fun b5 d5 Y5 g5 i5 => ?_
  have S5 := S4.join Y5 rfl (by omega)
  have k5 := fun h => k4 (i5 h)
  refine stageH (s := 82) (r := 9) (x := 8) (R + 1 + i) n j 6 (M i (j + 6)) rfl g5 ((S5.slot 9 (by omega)).trans h9) ((S5.slot 8 (by omega)).trans h8) (by omega) rfl (by omega) (fun h => by have := k5 h; omega) (fun h => (hB.row i hlt).at (rowOf_get _ (by have := k5 h; omega))) (by omega) (by omega) (by omega) (by rw [S5.size]; rw [hsz]; omega) fun b6 d6 Y6 g6 i6 => ?_
  have S6 := S5.join Y6 rfl (by omega)
  have k6 := fun h => k5 (i6 h)
  refine tailH (s := 90) (r := 9) (x := 8) (R + 1 + i) n j rfl rfl g6 ((S6.slot 9 (by omega)).trans h9) ((S6.slot 8 (by omega)).trans h8) (by omega) (fun u v h1 h2 h3 h4 => whiteH_c (hB.row i hlt) hn u v h1 h4 h2 h3) (by omega) (by omega) (by omega) (by rw [S6.size]; rw [hsz]; omega) fun b d Y g => ?_
  have Z := S6.join Y rfl (by omega)
  exact h b d Z g
noncomputable def r14 : List Oper := (Tryz.f144.body.bind (regionOf 14)).getD []
set_option maxRecDepth 100000 in
set_option maxHeartbeats 8000000 in
theorem chainV {Q : Exit → Act → World → Prop} {a : Act} {w : World} {B R n i j : Nat} {M : Nat → Nat → Int} (hB : BM w B R n M) (hn : n ≤ 200) (hlt : i < n) (hjt : j < n)
    (h4 : a.tmps[4]?.getD undef = slv R n n) (h5 : a.tmps[5]?.getD undef = intv n) (h6 : a.tmps[6]?.getD undef = intv n) (h7 : a.tmps[7]?.getD undef = intv i) (h8 : a.tmps[8]?.getD undef = intv j) (h9 : a.tmps[9]?.getD undef = slv (R + 1 + i) n n)
    (hsz : a.tmps.size = 207) (h : ∀ b d, Turned 106 203 a b → b.tmps[202]?.getD undef = .bool d → Q .normal b w) : Code.wp Tryz.prog (Code.region 14 r14.toArray false) Q a w := by
  refine wp_region_lit ?_
  refine n_step rfl rfl (by rw [hsz]; omega) (run_move a w _ _ _ _ _ _) fun a1 y1 f1 => ?_
  refine n_step rfl rfl (by rw [y1.size]; rw [hsz]; omega) (run_add a1 w _ _ _ _ _ _ i (f1.trans h7) (by omega) 6 (by omega)) fun a2 y2 f2 => ?_
  have T1 := (Turned.refl 106 106 _).step y1 rfl (by omega)
  have T2 := T1.step y2 rfl (by omega)
  refine n_step rfl rfl (by rw [T2.size]; rw [hsz]; omega) (run_move a2 w _ _ _ _ _ _) fun a3 y3 f3 => ?_
  have T3 := T2.step y3 rfl (by omega)
  replace f3 : a3.tmps[108]?.getD undef = intv n := f3.trans ((T2.slot 6 (by omega)).trans h6)
  refine n_step rfl rfl (by rw [T3.size]; rw [hsz]; omega) (run_lss a3 w _ _ _ _ _ _ _ (i + 6) n ((y3.slot _ (by omega)).trans f2) f3) fun a4 y4 f4 => ?_
  have T4 := T3.step y4 rfl (by omega)
  refine n_step rfl rfl (by rw [T4.size]; rw [hsz]; omega) (run_move a4 w _ _ _ _ _ _) fun a5 y5 f5 => ?_
  have T5 := T4.step y5 rfl (by omega)
  replace f5 := f5.trans f4
  have c5 : decide (i + 6 < n) = true → i + 6 < n := by simp
  refine stageV0 (s := 111) (r := 4) (x := 8) (y := 7) R n j i (R + 1 + i) (M i j) rfl f5 ((T5.slot 4 (by omega)).trans h4) ((T5.slot 8 (by omega)).trans h8) ((T5.slot 7 (by omega)).trans h7) (by omega) (by omega) (fun h => by have := c5 h; omega) hjt (fun h => hB.rows.at (rowOf_get _ hlt)) (fun h => (hB.row i hlt).at (rowOf_get _ hjt)) (by omega) (by omega) (by omega) (by omega) (by rw [T5.size]; rw [hsz]; omega) fun b0 d0 Y0 g0 i0 => ?_
  have S0 := T5.join Y0 rfl (by omega)
  have k0 := fun h => c5 (i0 h)
  refine stageV (s := 121) (r := 4) (x := 8) (y := 7) R n j i (R + 1 + (i + 1)) 1 (M (i + 1) j) rfl g0 ((S0.slot 4 (by omega)).trans h4) ((S0.slot 8 (by omega)).trans h8) ((S0.slot 7 (by omega)).trans h7) (by omega) (by omega) rfl (by omega) (fun h => by have := k0 h; omega) hjt (fun h => hB.rows.at (rowOf_get _ (by have := k0 h; omega))) (fun h => (hB.row (i + 1) (by have := k0 h; omega)).at (rowOf_get _ hjt)) (by omega) (by omega) (by omega) (by omega) (by rw [S0.size]; rw [hsz]; omega) fun b1 d1 Y1 g1 i1 => ?_
  have S1 := S0.join Y1 rfl (by omega)
  have k1 := fun h => k0 (i1 h)
  refine stageV (s := 132) (r := 4) (x := 8) (y := 7) R n j i (R + 1 + (i + 2)) 2 (M (i + 2) j) rfl g1 ((S1.slot 4 (by omega)).trans h4) ((S1.slot 8 (by omega)).trans h8) ((S1.slot 7 (by omega)).trans h7) (by omega) (by omega) rfl (by omega) (fun h => by have := k1 h; omega) hjt (fun h => hB.rows.at (rowOf_get _ (by have := k1 h; omega))) (fun h => (hB.row (i + 2) (by have := k1 h; omega)).at (rowOf_get _ hjt)) (by omega) (by omega) (by omega) (by omega) (by rw [S1.size]; rw [hsz]; omega) fun b2 d2 Y2 g2 i2 => ?_
  have S2 := S1.join Y2 rfl (by omega)
  have k2 := fun h => k1 (i2 h)
  refine stageV (s := 143) (r := 4) (x := 8) (y := 7) R n j i (R + 1 + (i + 3)) 3 (M (i + 3) j) rfl g2 ((S2.slot 4 (by omega)).trans h4) ((S2.slot 8 (by omega)).trans h8) ((S2.slot 7 (by omega)).trans h7) (by omega) (by omega) rfl (by omega) (fun h => by have := k2 h; omega) hjt (fun h => hB.rows.at (rowOf_get _ (by have := k2 h; omega))) (fun h => (hB.row (i + 3) (by have := k2 h; omega)).at (rowOf_get _ hjt)) (by omega) (by omega) (by omega) (by omega) (by rw [S2.size]; rw [hsz]; omega) fun b3 d3 Y3 g3 i3 => ?_
  have S3 := S2.join Y3 rfl (by omega)
  have k3 := fun h => k2 (i3 h)
  refine stageV (s := 154) (r := 4) (x := 8) (y := 7) R n j i (R + 1 + (i + 4)) 4 (M (i + 4) j) rfl g3 ((S3.slot 4 (by omega)).trans h4) ((S3.slot 8 (by omega)).trans h8) ((S3.slot 7 (by omega)).trans h7) (by omega) (by omega) rfl (by omega) (fun h => by have := k3 h; omega) hjt (fun h => hB.rows.at (rowOf_get _ (by have := k3 h; omega))) (fun h => (hB.row (i + 4) (by have := k3 h; omega)).at (rowOf_get _ hjt)) (by omega) (by omega) (by omega) (by omega) (by rw [S3.size]; rw [hsz]; omega) fun b4 d4 Y4 g4 i4 => ?_
  have S4 := S3.join Y4 rfl (by omega)
  have k4 := fun h => k3 (i4 h)
  refine stageV (s := 165) (r := 4) (x := 8) (y := 7) R n j i (R + 1 + (i + 5)) 5 (M (i + 5) j) rfl g4 ((S4.slot 4 (by omega)).trans h4) ((S4.slot 8 (by omega)).trans h8) ((S4.slot 7 (by omega)).trans h7) (by omega) (by omega) rfl (by omega) (fun h => by have := k4 h; omega) hjt (fun h => hB.rows.at (rowOf_get _ (by have := k4 h; omega))) (fun h => (hB.row (i + 5) (by have := k4 h; omega)).at (rowOf_get _ hjt)) (by omega) (by omega) (by omega) (by omega) (by rw [S4.size]; rw [hsz]; omega) fun b5 d5 Y5 g5 i5 => ?_
  have S5 := S4.join Y5 rfl (by omega)
  have k5 := fun h => k4 (i5 h)
  refine stageV (s := 176) (r := 4) (x := 8) (y := 7) R n j i (R + 1 + (i + 6)) 6 (M (i + 6) j) rfl g5 ((S5.slot 4 (by omega)).trans h4) ((S5.slot 8 (by omega)).trans h8) ((S5.slot 7 (by omega)).trans h7) (by omega) (by omega) rfl (by omega) (fun h => by have := k5 h; omega) hjt (fun h => hB.rows.at (rowOf_get _ (by have := k5 h; omega))) (fun h => (hB.row (i + 6) (by have := k5 h; omega)).at (rowOf_get _ hjt)) (by omega) (by omega) (by omega) (by omega) (by rw [S5.size]; rw [hsz]; omega) fun b6 d6 Y6 g6 i6 => ?_
  have S6 := S5.join Y6 rfl (by omega)
  have k6 := fun h => k5 (i6 h)
  refine tailV (s := 187) (r := 4) (x := 8) (y := 7) R n j i rfl rfl g6 ((S6.slot 4 (by omega)).trans h4) ((S6.slot 8 (by omega)).trans h8) ((S6.slot 7 (by omega)).trans h7) (by omega) (by omega) (fun u v h1 h2 h3 h4 => whiteV_c hB hn j hjt u v h1 h4 h2 h3) (by omega) (by omega) (by omega) (by omega) (by rw [S6.size]; rw [hsz]; omega) fun b d Y g => ?_
  have Z := S6.join Y rfl (by omega)
  exact h b d Z g
end

section
theorem Turned.eta {lo hi : Nat} {base : List Value} {ds : List Deferred} {b : Act} (h : Turned lo hi ⟨base.toArray, ds⟩ b) (h1 : lo ≤ hi) (h2 : hi ≤ base.length) :
    ∃ f : Nat → Value, (∀ k, b.tmps[k]?.getD undef = f k) ∧ b = ⟨(base.take lo ++ (List.range' lo (hi - lo)).map f ++ base.drop hi).toArray, ds⟩ := by
  refine ⟨fun k => b.tmps[k]?.getD undef, fun _ => rfl, ?_⟩
  obtain ⟨⟨l⟩, d⟩ := b
  have hd : d = ds := h.defers
  have hl : l.length = base.length := h.size
  subst hd
  congr 2
  apply List.ext_getElem
  · simp; omega
  intro k hk1 hk2
  have hs := h.slot k
  simp only [List.getElem?_toArray] at hs
  rw [List.getElem?_eq_getElem hk1, List.getElem?_eq_getElem (by omega)] at hs
  simp only [Option.getD_some] at hs
  by_cases c1 : k < lo
  · rw [hs (.inl c1), List.getElem_append_left (by simp; omega), List.getElem_append_left (by simp; omega), List.getElem_take]
  · by_cases c2 : k < hi
    · rw [List.getElem_append_left (by simp; omega), List.getElem_append_right (by simp; omega)]
      simp only [List.length_take, List.getElem_map, List.getElem_range', List.getElem?_toArray]
      rw [show lo + 1 * (k - min lo base.length) = k from by omega, List.getElem?_eq_getElem hk1]; rfl
    · rw [hs (.inr (by omega)), List.getElem_append_right (by simp; omega), List.getElem_drop]
      congr 1
      simp; omega
set_option maxRecDepth 100000 in
set_option maxHeartbeats 8000000 in
theorem pen3_c {w : World} {B R n : Nat} {M : Nat → Nat → Int} (h : BM w B R n M) (hn : n ≤ 200) (hn1 : 1 ≤ n) :
    Calls Tryz.prog 144 #[ptv B] w fun e w' => (∃ p : Nat, p ≤ 10000000 ∧ e = .returned (intv p)) ∧ w = w' := by
  have hni : (n : Int) ≤ 200 := by omega
  have hn1i : (1 : Int) ≤ n := by omega
  have H := Lib.hid h; clear h
  go_enter Tryz.func144, Tryz.ntmps144
  go_wp2_with fail
  refine (array_c H.out).mono ?_
  rintro e w1 ⟨rfl, rfl⟩
  go_wp2_with fail
  refine (width_c H.out).mono ?_
  rintro e w1 ⟨rfl, rfl⟩
  go_wp2_with fail
  refine (height_c H.out).mono ?_
  rintro e w1 ⟨rfl, rfl⟩
  go_wp2_with fail
  go_loopw [3, 7] (fun a c wr => ∃ p i : Nat, i ≤ n ∧ p ≤ 400 * i ∧ a = intv p ∧ c = intv i ∧ w = wr) (fun _ a _ => n - (intOf a).toNat)
  case atStart => exact ⟨0, 0, by omega, by omega, rfl, rfl, rfl⟩
  case round =>
    obtain ⟨p, i, hi, hp, rfl, rfl, rfl⟩ := hrel
    have hi9 : (i : Int) ≤ 200 := by omega
    have hp9 : (p : Int) ≤ 80000 := by omega
    by_cases hlt : i < n
    · have hlti : (i : Int) < (n : Int) := by omega
      have hr1 := H.out.rows.at (rowOf_get _ (show i < n by omega))
      go_wp2_with fail
      go_loopw [3, 8] (fun a f wr => ∃ (p2 j : Nat), j ≤ n ∧ p2 ≤ 400 * i + 2 * j ∧ a = intv p2 ∧ f = intv j ∧ w = wr) (fun _ a _ => n - (intOf a).toNat)
      case atStart => exact ⟨p, 0, by omega, by omega, rfl, rfl, rfl⟩
      case round =>
        obtain ⟨p2, j, hj, hp2, rfl, rfl, rfl⟩ := hrel
        have hj9 : (j : Int) ≤ 200 := by omega
        have hp29 : (p2 : Int) ≤ 80400 := by omega
        by_cases hjt : j < n
        · have hjti : (j : Int) < (n : Int) := by omega
          go_upto_region 12 with fail
          go_cut [103] from 21 to 204 (fun s wx => (∃ c, s = .bool c) ∧ w = wx)
          case first =>
            as_aux_lemma =>
              refine chainH H.out hn hlt hjt rfl rfl rfl rfl rfl rfl rfl fun b d Z g => ?_
              obtain ⟨f, hf, hb⟩ := Turned.eta Z (by omega) (by show _ ≤ 207; omega)
              have hl := (hf 103).symm.trans g
              subst hb
              clear hf Z g H
              dsimp only [List.take_succ_cons, List.take_zero, List.drop_succ_cons, List.drop_zero, List.range'_succ, List.range'_zero, Nat.reduceSub, Nat.reduceAdd, List.map_cons, List.map_nil, List.cons_append, List.nil_append]
              go_wp2_with fail
              go_meet
              exact ⟨⟨d, hl⟩, rfl⟩
          case rest =>
            as_aux_lemma =>
              obtain ⟨⟨b1, rfl⟩, rfl⟩ := hcut
              go_upto_if 103 with fail
              go_cut [3] from 21 to 204 (fun s wx => (∃ q : Nat, q ≤ p2 + 1 ∧ s = intv q) ∧ w = wx)
              case first =>
                as_aux_lemma =>
                  cases b1
                  · go_wp2_with fail
                    go_meet
                    exact ⟨⟨p2, by omega, rfl⟩, rfl⟩
                  · go_wp2_with fail
                    go_meet
                    exact ⟨⟨p2 + 1, by omega, rfl⟩, rfl⟩
              case rest =>
                as_aux_lemma =>
                  obtain ⟨⟨q, hq, rfl⟩, rfl⟩ := hcut
                  have hq9 : (q : Int) ≤ 80401 := by omega
                  go_upto_region 14 with fail
                  go_cut [202] from 21 to 204 (fun s wx => (∃ c, s = .bool c) ∧ w = wx)
                  case first =>
                    as_aux_lemma =>
                      refine chainV H.out hn hlt hjt rfl rfl rfl rfl rfl rfl rfl fun b d Z g => ?_
                      obtain ⟨f, hf, hb⟩ := Turned.eta Z (by omega) (by show _ ≤ 207; omega)
                      have hl := (hf 202).symm.trans g
                      subst hb
                      clear hf Z g H
                      dsimp only [List.take_succ_cons, List.take_zero, List.drop_succ_cons, List.drop_zero, List.range'_succ, List.range'_zero, Nat.reduceSub, Nat.reduceAdd, List.map_cons, List.map_nil, List.cons_append, List.nil_append]
                      go_wp2_with fail
                      go_meet
                      exact ⟨⟨d, hl⟩, rfl⟩
                  case rest =>
                    as_aux_lemma =>
                      obtain ⟨⟨b2, rfl⟩, rfl⟩ := hcut
                      cases b2
                      all_goals
                        go_wp2_with fail
                        go_roundw
                        case rel =>
                          first
                          | exact ⟨q, j + 1, by omega, by omega, rfl, rfl, trivial⟩
                          | exact ⟨q + 1, j + 1, by omega, by omega, rfl, rfl, trivial⟩
                        case measure => simp [intOf]; omega
        · obtain rfl : n = j := by omega
          go_wp2_with fail
          go_roundw
          case rel => exact ⟨p2, i + 1, by omega, by omega, by go_num, by go_num, by trivial⟩
          case measure => simp [intOf]; omega
    · obtain rfl : n = i := by omega
      go_wp2_with fail
      go_ret
      exact ⟨⟨p * 40, by omega, by congr 1⟩, rfl⟩
end
end Go.Proofs.YtplpafbkalkchaaGreatDoor
