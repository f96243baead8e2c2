/- Stages of a chain of tests on a row, over a frame that is a variable. (Printed by gen_s2.py.) -/
import Derived.Test.YtplpafbkalkchaaGreatDoorW18
namespace Go.Proofs.YtplpafbkalkchaaGreatDoor
open Go Go.RowKit Go.Proofs
set_option linter.all false

section
set_option maxHeartbeats 1000000 in
theorem stageH0 {ops : Array Oper} {Q : Exit → Act → World → Prop} {a : Act} {w : World} {rest : List Oper} {t0 t1 t2 t3 t4 t5 t6 : TypeId} {p0 p1 p2 p3 p4 p5 p6 : String} {e0 e1 e2 e3 e4 e5 e6 : Array Edge}
    {s g gs r x : Nat} {c : Bool} {u : Int} (b n j : Nat) (v : Int) (hgs : (ops[g]?).bind (·.dst) = some gs) (hc : a.tmps[gs]?.getD undef = .bool c)
    (hr : a.tmps[r]?.getD undef = slv b n n) (hx : a.tmps[x]?.getD undef = intv j) (hj : j ≤ 200)
    (hfit : c = true → j < n) (hv : c = true → w.cell? ⟨b, j, none⟩ = some (i8v v))
    (h1 : gs < s) (h2 : r < s) (h3 : x < s) (hsz : s + 7 ≤ a.tmps.size)
    (h : ∀ b d, Turned s (s + 7) a b → b.tmps[s + 6]?.getD undef = .bool d → (d = true → c = true) → wpList Tryz.prog ops Q rest b w) :
    wpList Tryz.prog ops Q (
      { dst := some (s), op := .move (.tmp r), type := t0, pos := p0, after := e0, guard := some (g, true) } ::
      { dst := some (s + 1), op := .move (.tmp x), type := t1, pos := p1, after := e1, guard := some (g, true) } ::
      { dst := some (s + 2), op := .indexAddr 221 (.tmp s) (.tmp (s + 1)), type := t2, pos := p2, after := e2, guard := some (g, true) } ::
      { dst := some (s + 3), op := .load 145 (.tmp (s + 2)), type := t3, pos := p3, after := e3, guard := some (g, true) } ::
      { dst := some (s + 4), op := .binOp .eql 145 (.tmp (s + 3)) (.const (.int .i8 u)) 145, type := t4, pos := p4, after := e4, guard := some (g, true) } ::
      { dst := some (s + 5), op := .pick (.tmp gs) (.tmp (s + 4)) (.const (.bool false)), type := t5, pos := p5, after := e5, guard := none } ::
      { dst := some (s + 6), op := .move (.tmp (s + 5)), type := t6, pos := p6, after := e6, guard := none } :: rest) a w := by
  have T0 : Turned s s a a := Turned.refl _ _ _
  refine g_step rfl hgs ((T0.slot gs (by omega)).trans hc) rfl (by rw [T0.size]; omega) (fun _ => run_move a w _ _ _ _ _ _) fun a1 y1 f1 => ?_
  replace f1 := fun hc => (f1 hc).trans ((T0.slot r (by omega)).trans hr)
  have T1 := T0.step y1 rfl (by omega)
  refine g_step rfl hgs ((T1.slot gs (by omega)).trans hc) rfl (by rw [T1.size]; omega) (fun _ => run_move a1 w _ _ _ _ _ _) fun a2 y2 f2 => ?_
  replace f2 := fun hc => (f2 hc).trans ((T1.slot x (by omega)).trans hx)
  have T2 := T1.step y2 rfl (by omega)
  refine g_step rfl hgs ((T2.slot gs (by omega)).trans hc) rfl (by rw [T2.size]; omega) (fun hc => run_index a2 w _ _ _ _ _ _ _ b n (j) ((y2.slot _ (by omega)).trans (f1 hc)) (f2 hc) (hfit hc)) fun a3 y3 f3 => ?_
  have T3 := T2.step y3 rfl (by omega)
  refine g_step rfl hgs ((T3.slot gs (by omega)).trans hc) rfl (by rw [T3.size]; omega) (fun hc => run_load a3 w _ _ _ _ _ _ b (j) v (f3 hc) (hv hc)) fun a4 y4 f4 => ?_
  have T4 := T3.step y4 rfl (by omega)
  refine g_step rfl hgs ((T4.slot gs (by omega)).trans hc) rfl (by rw [T4.size]; omega) (fun hc => run_eql a4 w _ _ _ _ _ _ v u (f4 hc)) fun a5 y5 f5 => ?_
  have T5 := T4.step y5 rfl (by omega)
  refine n_step rfl rfl (by rw [T5.size]; omega) (run_pick a5 w _ _ _ _ _ _ _ c (v == u) ((T5.slot gs (by omega)).trans hc) f5) fun a6 y6 f6 => ?_
  have T6 := T5.step y6 rfl (by omega)
  refine n_step rfl rfl (by rw [T6.size]; omega) (run_move a6 w _ _ _ _ _ _) fun a7 y7 f7 => ?_
  exact h a7 _ (T6.step y7 rfl (by omega)) (f7.trans f6) (by cases c <;> simp)
set_option maxHeartbeats 1000000 in
theorem stageH {ops : Array Oper} {Q : Exit → Act → World → Prop} {a : Act} {w : World} {rest : List Oper} {t0 t1 t2 t3 t4 t5 t6 t7 : TypeId} {p0 p1 p2 p3 p4 p5 p6 p7 : String} {e0 e1 e2 e3 e4 e5 e6 e7 : Array Edge}
    {s g gs r x : Nat} {c : Bool} {kI : Int} {u : Int} (b n j k : Nat) (v : Int) (hgs : (ops[g]?).bind (·.dst) = some gs) (hc : a.tmps[gs]?.getD undef = .bool c)
    (hr : a.tmps[r]?.getD undef = slv b n n) (hx : a.tmps[x]?.getD undef = intv j) (hj : j ≤ 200) (hk : kI = (k : Int)) (hk9 : k ≤ 100)
    (hfit : c = true → j + k < n) (hv : c = true → w.cell? ⟨b, j + k, none⟩ = some (i8v v))
    (h1 : gs < s) (h2 : r < s) (h3 : x < s) (hsz : s + 8 ≤ a.tmps.size)
    (h : ∀ b d, Turned s (s + 8) a b → b.tmps[s + 7]?.getD undef = .bool d → (d = true → c = true) → wpList Tryz.prog ops Q rest b w) :
    wpList Tryz.prog ops Q (
      { dst := some (s), op := .move (.tmp r), type := t0, pos := p0, after := e0, guard := some (g, true) } ::
      { dst := some (s + 1), op := .move (.tmp x), type := t1, pos := p1, after := e1, guard := some (g, true) } ::
      { dst := some (s + 2), op := .binOp .add 3 (.tmp (s + 1)) (.const (.int .i64 kI)) 3, type := t2, pos := p2, after := e2, guard := some (g, true) } ::
      { dst := some (s + 3), op := .indexAddr 221 (.tmp s) (.tmp (s + 2)), type := t3, pos := p3, after := e3, guard := some (g, true) } ::
      { dst := some (s + 4), op := .load 145 (.tmp (s + 3)), type := t4, pos := p4, after := e4, guard := some (g, true) } ::
      { dst := some (s + 5), op := .binOp .eql 145 (.tmp (s + 4)) (.const (.int .i8 u)) 145, type := t5, pos := p5, after := e5, guard := some (g, true) } ::
      { dst := some (s + 6), op := .pick (.tmp gs) (.tmp (s + 5)) (.const (.bool false)), type := t6, pos := p6, after := e6, guard := none } ::
      { dst := some (s + 7), op := .move (.tmp (s + 6)), type := t7, pos := p7, after := e7, guard := none } :: rest) a w := by
  subst hk
  have T0 : Turned s s a a := Turned.refl _ _ _
  refine g_step rfl hgs ((T0.slot gs (by omega)).trans hc) rfl (by rw [T0.size]; omega) (fun _ => run_move a w _ _ _ _ _ _) fun a1 y1 f1 => ?_
  replace f1 := fun hc => (f1 hc).trans ((T0.slot r (by omega)).trans hr)
  have T1 := T0.step y1 rfl (by omega)
  refine g_step rfl hgs ((T1.slot gs (by omega)).trans hc) rfl (by rw [T1.size]; omega) (fun _ => run_move a1 w _ _ _ _ _ _) fun a2 y2 f2 => ?_
  replace f2 := fun hc => (f2 hc).trans ((T1.slot x (by omega)).trans hx)
  have T2 := T1.step y2 rfl (by omega)
  refine g_step rfl hgs ((T2.slot gs (by omega)).trans hc) rfl (by rw [T2.size]; omega) (fun hc => run_add a2 w _ _ _ _ _ _ j (f2 hc) (by omega) k (by omega)) fun a3 y3 f3 => ?_
  have T3 := T2.step y3 rfl (by omega)
  refine g_step rfl hgs ((T3.slot gs (by omega)).trans hc) rfl (by rw [T3.size]; omega) (fun hc => run_index a3 w _ _ _ _ _ _ _ b n (j + k) ((y3.slot _ (by omega)).trans ((y2.slot _ (by omega)).trans (f1 hc))) (f3 hc) (hfit hc)) fun a4 y4 f4 => ?_
  have T4 := T3.step y4 rfl (by omega)
  refine g_step rfl hgs ((T4.slot gs (by omega)).trans hc) rfl (by rw [T4.size]; omega) (fun hc => run_load a4 w _ _ _ _ _ _ b (j + k) v (f4 hc) (hv hc)) fun a5 y5 f5 => ?_
  have T5 := T4.step y5 rfl (by omega)
  refine g_step rfl hgs ((T5.slot gs (by omega)).trans hc) rfl (by rw [T5.size]; omega) (fun hc => run_eql a5 w _ _ _ _ _ _ v u (f5 hc)) fun a6 y6 f6 => ?_
  have T6 := T5.step y6 rfl (by omega)
  refine n_step rfl rfl (by rw [T6.size]; omega) (run_pick a6 w _ _ _ _ _ _ _ c (v == u) ((T6.slot gs (by omega)).trans hc) f6) fun a7 y7 f7 => ?_
  have T7 := T6.step y7 rfl (by omega)
  refine n_step rfl rfl (by rw [T7.size]; omega) (run_move a7 w _ _ _ _ _ _) fun a8 y8 f8 => ?_
  exact h a8 _ (T7.step y8 rfl (by omega)) (f8.trans f7) (by cases c <;> simp)
set_option maxHeartbeats 1000000 in
theorem stageV0 {ops : Array Oper} {Q : Exit → Act → World → Prop} {a : Act} {w : World} {rest : List Oper} {t0 t1 t2 t3 t4 t5 t6 t7 t8 t9 : TypeId} {p0 p1 p2 p3 p4 p5 p6 p7 p8 p9 : String} {e0 e1 e2 e3 e4 e5 e6 e7 e8 e9 : Array Edge}
    {s g gs r x y : Nat} {c : Bool} {u : Int} (b n j i B : Nat) (v : Int) (hgs : (ops[g]?).bind (·.dst) = some gs) (hc : a.tmps[gs]?.getD undef = .bool c)
    (hr : a.tmps[r]?.getD undef = slv b n n) (hx : a.tmps[x]?.getD undef = intv j) (hy : a.tmps[y]?.getD undef = intv i) (hi : i ≤ 200) (hj : j ≤ 200)
    (hfit : c = true → i < n) (hjn : j < n) (hv0 : c = true → w.cell? ⟨b, i, none⟩ = some (slv B n n)) (hv : c = true → w.cell? ⟨B, j, none⟩ = some (i8v v))
    (h1 : gs < s) (h2 : r < s) (h3 : x < s) (h4 : y < s) (hsz : s + 10 ≤ a.tmps.size)
    (h : ∀ b d, Turned s (s + 10) a b → b.tmps[s + 9]?.getD undef = .bool d → (d = true → c = true) → wpList Tryz.prog ops Q rest b w) :
    wpList Tryz.prog ops Q (
      { dst := some (s), op := .move (.tmp r), type := t0, pos := p0, after := e0, guard := some (g, true) } ::
      { dst := some (s + 1), op := .move (.tmp y), type := t1, pos := p1, after := e1, guard := some (g, true) } ::
      { dst := some (s + 2), op := .indexAddr 220 (.tmp s) (.tmp (s + 1)), type := t2, pos := p2, after := e2, guard := some (g, true) } ::
      { dst := some (s + 3), op := .load 221 (.tmp (s + 2)), type := t3, pos := p3, after := e3, guard := some (g, true) } ::
      { dst := some (s + 4), op := .move (.tmp x), type := t4, pos := p4, after := e4, guard := some (g, true) } ::
      { dst := some (s + 5), op := .indexAddr 221 (.tmp (s + 3)) (.tmp (s + 4)), type := t5, pos := p5, after := e5, guard := some (g, true) } ::
      { dst := some (s + 6), op := .load 145 (.tmp (s + 5)), type := t6, pos := p6, after := e6, guard := some (g, true) } ::
      { dst := some (s + 7), op := .binOp .eql 145 (.tmp (s + 6)) (.const (.int .i8 u)) 145, type := t7, pos := p7, after := e7, guard := some (g, true) } ::
      { dst := some (s + 8), op := .pick (.tmp gs) (.tmp (s + 7)) (.const (.bool false)), type := t8, pos := p8, after := e8, guard := none } ::
      { dst := some (s + 9), op := .move (.tmp (s + 8)), type := t9, pos := p9, after := e9, guard := none } :: rest) a w := by
  have T0 : Turned s s a a := Turned.refl _ _ _
  refine g_step rfl hgs ((T0.slot gs (by omega)).trans hc) rfl (by rw [T0.size]; omega) (fun _ => run_move a w _ _ _ _ _ _) fun a1 y1 f1 => ?_
  replace f1 := fun hc => (f1 hc).trans ((T0.slot r (by omega)).trans hr)
  have T1 := T0.step y1 rfl (by omega)
  refine g_step rfl hgs ((T1.slot gs (by omega)).trans hc) rfl (by rw [T1.size]; omega) (fun _ => run_move a1 w _ _ _ _ _ _) fun a2 y2 f2 => ?_
  replace f2 := fun hc => (f2 hc).trans ((T1.slot y (by omega)).trans hy)
  have T2 := T1.step y2 rfl (by omega)
  refine g_step rfl hgs ((T2.slot gs (by omega)).trans hc) rfl (by rw [T2.size]; omega) (fun hc => run_index220 a2 w _ _ _ _ _ _ _ b n (i) ((y2.slot _ (by omega)).trans (f1 hc)) (f2 hc) (hfit hc)) fun a3 y3 f3 => ?_
  have T3 := T2.step y3 rfl (by omega)
  refine g_step rfl hgs ((T3.slot gs (by omega)).trans hc) rfl (by rw [T3.size]; omega) (fun hc => run_load221 a3 w _ _ _ _ _ _ b (i) _ (f3 hc) (hv0 hc)) fun a4 y4 f4 => ?_
  have T4 := T3.step y4 rfl (by omega)
  refine g_step rfl hgs ((T4.slot gs (by omega)).trans hc) rfl (by rw [T4.size]; omega) (fun _ => run_move a4 w _ _ _ _ _ _) fun a5 y5 f5 => ?_
  replace f5 := fun hc => (f5 hc).trans ((T4.slot x (by omega)).trans hx)
  have T5 := T4.step y5 rfl (by omega)
  refine g_step rfl hgs ((T5.slot gs (by omega)).trans hc) rfl (by rw [T5.size]; omega) (fun hc => run_index a5 w _ _ _ _ _ _ _ B n j ((y5.slot _ (by omega)).trans (f4 hc)) (f5 hc) hjn) fun a6 y6 f6 => ?_
  have T6 := T5.step y6 rfl (by omega)
  refine g_step rfl hgs ((T6.slot gs (by omega)).trans hc) rfl (by rw [T6.size]; omega) (fun hc => run_load a6 w _ _ _ _ _ _ B j v (f6 hc) (hv hc)) fun a7 y7 f7 => ?_
  have T7 := T6.step y7 rfl (by omega)
  refine g_step rfl hgs ((T7.slot gs (by omega)).trans hc) rfl (by rw [T7.size]; omega) (fun hc => run_eql a7 w _ _ _ _ _ _ v u (f7 hc)) fun a8 y8 f8 => ?_
  have T8 := T7.step y8 rfl (by omega)
  refine n_step rfl rfl (by rw [T8.size]; omega) (run_pick a8 w _ _ _ _ _ _ _ c (v == u) ((T8.slot gs (by omega)).trans hc) f8) fun a9 y9 f9 => ?_
  have T9 := T8.step y9 rfl (by omega)
  refine n_step rfl rfl (by rw [T9.size]; omega) (run_move a9 w _ _ _ _ _ _) fun a10 y10 f10 => ?_
  exact h a10 _ (T9.step y10 rfl (by omega)) (f10.trans f9) (by cases c <;> simp)
set_option maxHeartbeats 1000000 in
theorem stageV {ops : Array Oper} {Q : Exit → Act → World → Prop} {a : Act} {w : World} {rest : List Oper} {t0 t1 t2 t3 t4 t5 t6 t7 t8 t9 t10 : TypeId} {p0 p1 p2 p3 p4 p5 p6 p7 p8 p9 p10 : String} {e0 e1 e2 e3 e4 e5 e6 e7 e8 e9 e10 : Array Edge}
    {s g gs r x y : Nat} {c : Bool} {kI : Int} {u : Int} (b n j i B k : Nat) (v : Int) (hgs : (ops[g]?).bind (·.dst) = some gs) (hc : a.tmps[gs]?.getD undef = .bool c)
    (hr : a.tmps[r]?.getD undef = slv b n n) (hx : a.tmps[x]?.getD undef = intv j) (hy : a.tmps[y]?.getD undef = intv i) (hi : i ≤ 200) (hj : j ≤ 200) (hk : kI = (k : Int)) (hk9 : k ≤ 100)
    (hfit : c = true → i + k < n) (hjn : j < n) (hv0 : c = true → w.cell? ⟨b, i + k, none⟩ = some (slv B n n)) (hv : c = true → w.cell? ⟨B, j, none⟩ = some (i8v v))
    (h1 : gs < s) (h2 : r < s) (h3 : x < s) (h4 : y < s) (hsz : s + 11 ≤ a.tmps.size)
    (h : ∀ b d, Turned s (s + 11) a b → b.tmps[s + 10]?.getD undef = .bool d → (d = true → c = true) → wpList Tryz.prog ops Q rest b w) :
    wpList Tryz.prog ops Q (
      { dst := some (s), op := .move (.tmp r), type := t0, pos := p0, after := e0, guard := some (g, true) } ::
      { dst := some (s + 1), op := .move (.tmp y), type := t1, pos := p1, after := e1, guard := some (g, true) } ::
      { dst := some (s + 2), op := .binOp .add 3 (.tmp (s + 1)) (.const (.int .i64 kI)) 3, type := t2, pos := p2, after := e2, guard := some (g, true) } ::
      { dst := some (s + 3), op := .indexAddr 220 (.tmp s) (.tmp (s + 2)), type := t3, pos := p3, after := e3, guard := some (g, true) } ::
      { dst := some (s + 4), op := .load 221 (.tmp (s + 3)), type := t4, pos := p4, after := e4, guard := some (g, true) } ::
      { dst := some (s + 5), op := .move (.tmp x), type := t5, pos := p5, after := e5, guard := some (g, true) } ::
      { dst := some (s + 6), op := .indexAddr 221 (.tmp (s + 4)) (.tmp (s + 5)), type := t6, pos := p6, after := e6, guard := some (g, true) } ::
      { dst := some (s + 7), op := .load 145 (.tmp (s + 6)), type := t7, pos := p7, after := e7, guard := some (g, true) } ::
      { dst := some (s + 8), op := .binOp .eql 145 (.tmp (s + 7)) (.const (.int .i8 u)) 145, type := t8, pos := p8, after := e8, guard := some (g, true) } ::
      { dst := some (s + 9), op := .pick (.tmp gs) (.tmp (s + 8)) (.const (.bool false)), type := t9, pos := p9, after := e9, guard := none } ::
      { dst := some (s + 10), op := .move (.tmp (s + 9)), type := t10, pos := p10, after := e10, guard := none } :: rest) a w := by
  subst hk
  have T0 : Turned s s a a := Turned.refl _ _ _
  refine g_step rfl hgs ((T0.slot gs (by omega)).trans hc) rfl (by rw [T0.size]; omega) (fun _ => run_move a w _ _ _ _ _ _) fun a1 y1 f1 => ?_
  replace f1 := fun hc => (f1 hc).trans ((T0.slot r (by omega)).trans hr)
  have T1 := T0.step y1 rfl (by omega)
  refine g_step rfl hgs ((T1.slot gs (by omega)).trans hc) rfl (by rw [T1.size]; omega) (fun _ => run_move a1 w _ _ _ _ _ _) fun a2 y2 f2 => ?_
  replace f2 := fun hc => (f2 hc).trans ((T1.slot y (by omega)).trans hy)
  have T2 := T1.step y2 rfl (by omega)
  refine g_step rfl hgs ((T2.slot gs (by omega)).trans hc) rfl (by rw [T2.size]; omega) (fun hc => run_add a2 w _ _ _ _ _ _ i (f2 hc) (by omega) k (by omega)) fun a3 y3 f3 => ?_
  have T3 := T2.step y3 rfl (by omega)
  refine g_step rfl hgs ((T3.slot gs (by omega)).trans hc) rfl (by rw [T3.size]; omega) (fun hc => run_index220 a3 w _ _ _ _ _ _ _ b n (i + k) ((y3.slot _ (by omega)).trans ((y2.slot _ (by omega)).trans (f1 hc))) (f3 hc) (hfit hc)) fun a4 y4 f4 => ?_
  have T4 := T3.step y4 rfl (by omega)
  refine g_step rfl hgs ((T4.slot gs (by omega)).trans hc) rfl (by rw [T4.size]; omega) (fun hc => run_load221 a4 w _ _ _ _ _ _ b (i + k) _ (f4 hc) (hv0 hc)) fun a5 y5 f5 => ?_
  have T5 := T4.step y5 rfl (by omega)
  refine g_step rfl hgs ((T5.slot gs (by omega)).trans hc) rfl (by rw [T5.size]; omega) (fun _ => run_move a5 w _ _ _ _ _ _) fun a6 y6 f6 => ?_
  replace f6 := fun hc => (f6 hc).trans ((T5.slot x (by omega)).trans hx)
  have T6 := T5.step y6 rfl (by omega)
  refine g_step rfl hgs ((T6.slot gs (by omega)).trans hc) rfl (by rw [T6.size]; omega) (fun hc => run_index a6 w _ _ _ _ _ _ _ B n j ((y6.slot _ (by omega)).trans (f5 hc)) (f6 hc) hjn) fun a7 y7 f7 => ?_
  have T7 := T6.step y7 rfl (by omega)
  refine g_step rfl hgs ((T7.slot gs (by omega)).trans hc) rfl (by rw [T7.size]; omega) (fun hc => run_load a7 w _ _ _ _ _ _ B j v (f7 hc) (hv hc)) fun a8 y8 f8 => ?_
  have T8 := T7.step y8 rfl (by omega)
  refine g_step rfl hgs ((T8.slot gs (by omega)).trans hc) rfl (by rw [T8.size]; omega) (fun hc => run_eql a8 w _ _ _ _ _ _ v u (f8 hc)) fun a9 y9 f9 => ?_
  have T9 := T8.step y9 rfl (by omega)
  refine n_step rfl rfl (by rw [T9.size]; omega) (run_pick a9 w _ _ _ _ _ _ _ c (v == u) ((T9.slot gs (by omega)).trans hc) f9) fun a10 y10 f10 => ?_
  have T10 := T9.step y10 rfl (by omega)
  refine n_step rfl rfl (by rw [T10.size]; omega) (run_move a10 w _ _ _ _ _ _) fun a11 y11 f11 => ?_
  exact h a11 _ (T10.step y11 rfl (by omega)) (f11.trans f10) (by cases c <;> simp)
set_option maxHeartbeats 1000000 in
theorem tailH {ops : Array Oper} {Q : Exit → Act → World → Prop} {a : Act} {w : World} {t0 t1 t2 t3 t4 t5 t6 t7 t8 t9 t10 t11 t12 t13 : TypeId} {p0 p1 p2 p3 p4 p5 p6 p7 p8 p9 p10 p11 p12 p13 : String} {e0 e1 e2 e3 e4 e5 e6 e7 e8 e9 e10 e11 e12 e13 : Array Edge} {ats0 ats1 : Array TypeId}
    {s g gs g2 r x : Nat} {c : Bool} (b n j : Nat) (hgs : (ops[g]?).bind (·.dst) = some gs) (hg2 : (ops[g2]?).bind (·.dst) = some (s + 5)) (hc : a.tmps[gs]?.getD undef = .bool c)
    (hr : a.tmps[r]?.getD undef = slv b n n) (hx : a.tmps[x]?.getD undef = intv j) (hj : j ≤ 200)
    (hcall : ∀ u v : Int, -1000 ≤ u → u ≤ 1000 → -1000 ≤ v → v ≤ 1000 → Calls Tryz.prog 180 #[slv b n n, .int .i64 u, .int .i64 v] w fun e w' => (∃ c, e = .returned (.bool c)) ∧ w = w')
    (h1 : gs < s) (h2 : r < s) (h3 : x < s) (hsz : s + 14 ≤ a.tmps.size)
    (h : ∀ b d, Turned s (s + 14) a b → b.tmps[s + 13]?.getD undef = .bool d → Q .normal b w) :
    wpList Tryz.prog ops Q (
      { dst := some (s), op := .move (.tmp r), type := t0, pos := p0, after := e0, guard := some (g, true) } ::
      { dst := some (s + 1), op := .move (.tmp x), type := t1, pos := p1, after := e1, guard := some (g, true) } ::
      { dst := some (s + 2), op := .binOp .sub 3 (.tmp (s + 1)) (.const (.int .i64 4)) 3, type := t2, pos := p2, after := e2, guard := some (g, true) } ::
      { dst := some (s + 3), op := .move (.tmp x), type := t3, pos := p3, after := e3, guard := some (g, true) } ::
      { dst := some (s + 4), op := .call { callee := .value (.func 180), args := #[(.tmp s), (.tmp (s + 2)), (.tmp (s + 3))], argTypes := ats0 }, type := t4, pos := p4, after := e4, guard := some (g, true) } ::
      { dst := some (s + 5), op := .move (.tmp (s + 4)), type := t5, pos := p5, after := e5, guard := some (g, true) } ::
      { dst := some (s + 6), op := .move (.tmp r), type := t6, pos := p6, after := e6, guard := some (g2, false) } ::
      { dst := some (s + 7), op := .move (.tmp x), type := t7, pos := p7, after := e7, guard := some (g2, false) } ::
      { dst := some (s + 8), op := .binOp .add 3 (.tmp (s + 7)) (.const (.int .i64 7)) 3, type := t8, pos := p8, after := e8, guard := some (g2, false) } ::
      { dst := some (s + 9), op := .move (.tmp x), type := t9, pos := p9, after := e9, guard := some (g2, false) } ::
      { dst := some (s + 10), op := .binOp .add 3 (.tmp (s + 9)) (.const (.int .i64 11)) 3, type := t10, pos := p10, after := e10, guard := some (g2, false) } ::
      { dst := some (s + 11), op := .call { callee := .value (.func 180), args := #[(.tmp (s + 6)), (.tmp (s + 8)), (.tmp (s + 10))], argTypes := ats1 }, type := t11, pos := p11, after := e11, guard := some (g2, false) } ::
      { dst := some (s + 12), op := .pick (.tmp (s + 5)) (.const (.bool true)) (.tmp (s + 11)), type := t12, pos := p12, after := e12, guard := some (g, true) } ::
      { dst := some (s + 13), op := .pick (.tmp gs) (.tmp (s + 12)) (.const (.bool false)), type := t13, pos := p13, after := e13, guard := none } :: []) a w := by
  have T0 : Turned s s a a := Turned.refl _ _ _
  cases c with
  | false =>
    refine no_step (wanted_t rfl hgs ((T0.slot gs (by omega)).trans hc)) rfl (by rw [T0.size]; omega) fun a1 y1 u1 => ?_
    have T1 := T0.step y1 rfl (by omega)
    refine no_step (wanted_t rfl hgs ((T1.slot gs (by omega)).trans hc)) rfl (by rw [T1.size]; omega) fun a2 y2 u2 => ?_
    have T2 := T1.step y2 rfl (by omega)
    refine no_step (wanted_t rfl hgs ((T2.slot gs (by omega)).trans hc)) rfl (by rw [T2.size]; omega) fun a3 y3 u3 => ?_
    have T3 := T2.step y3 rfl (by omega)
    refine no_step (wanted_t rfl hgs ((T3.slot gs (by omega)).trans hc)) rfl (by rw [T3.size]; omega) fun a4 y4 u4 => ?_
    have T4 := T3.step y4 rfl (by omega)
    refine no_step (wanted_t rfl hgs ((T4.slot gs (by omega)).trans hc)) rfl (by rw [T4.size]; omega) fun a5 y5 u5 => ?_
    have T5 := T4.step y5 rfl (by omega)
    refine no_step (wanted_t rfl hgs ((T5.slot gs (by omega)).trans hc)) rfl (by rw [T5.size]; omega) fun a6 y6 u6 => ?_
    have T6 := T5.step y6 rfl (by omega)
    have z6 := u6
    refine no_step (wanted_u rfl hg2 z6) rfl (by rw [T6.size]; omega) fun a7 y7 u7 => ?_
    have T7 := T6.step y7 rfl (by omega)
    have z7 := (y7.slot (s + 5) (by omega)).trans z6
    refine no_step (wanted_u rfl hg2 z7) rfl (by rw [T7.size]; omega) fun a8 y8 u8 => ?_
    have T8 := T7.step y8 rfl (by omega)
    have z8 := (y8.slot (s + 5) (by omega)).trans z7
    refine no_step (wanted_u rfl hg2 z8) rfl (by rw [T8.size]; omega) fun a9 y9 u9 => ?_
    have T9 := T8.step y9 rfl (by omega)
    have z9 := (y9.slot (s + 5) (by omega)).trans z8
    refine no_step (wanted_u rfl hg2 z9) rfl (by rw [T9.size]; omega) fun a10 y10 u10 => ?_
    have T10 := T9.step y10 rfl (by omega)
    have z10 := (y10.slot (s + 5) (by omega)).trans z9
    refine no_step (wanted_u rfl hg2 z10) rfl (by rw [T10.size]; omega) fun a11 y11 u11 => ?_
    have T11 := T10.step y11 rfl (by omega)
    have z11 := (y11.slot (s + 5) (by omega)).trans z10
    refine no_step (wanted_u rfl hg2 z11) rfl (by rw [T11.size]; omega) fun a12 y12 u12 => ?_
    have T12 := T11.step y12 rfl (by omega)
    have z12 := (y12.slot (s + 5) (by omega)).trans z11
    refine no_step (wanted_t rfl hgs ((T12.slot gs (by omega)).trans hc)) rfl (by rw [T12.size]; omega) fun a13 y13 u13 => ?_
    have T13 := T12.step y13 rfl (by omega)
    refine n_step rfl rfl (by rw [T13.size]; omega) (run_pick a13 w _ _ _ _ _ _ _ false false ((T13.slot gs (by omega)).trans hc) (by intro h; cases h)) fun a14 y14 f14 => ?_
    exact wpList_nil (h a14 _ (T13.step y14 rfl (by omega)) f14)
  | true =>
    refine val_step (wanted_t rfl hgs ((T0.slot gs (by omega)).trans hc)) rfl (by rw [T0.size]; omega) (run_move a w _ _ _ _ _ _) fun a1 y1 f1 => ?_
    replace f1 := f1.trans ((T0.slot r (by omega)).trans hr)
    have T1 := T0.step y1 rfl (by omega)
    refine val_step (wanted_t rfl hgs ((T1.slot gs (by omega)).trans hc)) rfl (by rw [T1.size]; omega) (run_move a1 w _ _ _ _ _ _) fun a2 y2 f2 => ?_
    replace f2 := f2.trans ((T1.slot x (by omega)).trans hx)
    have T2 := T1.step y2 rfl (by omega)
    refine val_step (wanted_t rfl hgs ((T2.slot gs (by omega)).trans hc)) rfl (by rw [T2.size]; omega) (run_sub4 a2 w _ _ _ _ _ _ j f2 (by omega)) fun a3 y3 f3 => ?_
    have T3 := T2.step y3 rfl (by omega)
    refine val_step (wanted_t rfl hgs ((T3.slot gs (by omega)).trans hc)) rfl (by rw [T3.size]; omega) (run_move a3 w _ _ _ _ _ _) fun a4 y4 f4 => ?_
    replace f4 := f4.trans ((T3.slot x (by omega)).trans hx)
    have T4 := T3.step y4 rfl (by omega)
    refine call_step (wanted_t rfl hgs ((T4.slot gs (by omega)).trans hc)) rfl (by rw [T4.size]; omega) (run_call180 a4 w _ _ _ _ _ _ _ _ _) (by rw [((y4.slot _ (by omega)).trans ((y3.slot _ (by omega)).trans ((y2.slot _ (by omega)).trans f1))), ((y4.slot _ (by omega)).trans f3), f4]; exact hcall _ _ (by omega) (by omega) (by omega) (by omega)) fun a5 d5 y5 f5 => ?_
    have T5 := T4.step y5 rfl (by omega)
    refine val_step (wanted_t rfl hgs ((T5.slot gs (by omega)).trans hc)) rfl (by rw [T5.size]; omega) (run_move a5 w _ _ _ _ _ _) fun a6 y6 f6 => ?_
    replace f6 := f6.trans f5
    have T6 := T5.step y6 rfl (by omega)
    have m6 := f6
    cases hd : d5 with
    | true =>
      rw [hd] at m6
      refine no_step (wanted_f rfl hg2 m6) rfl (by rw [T6.size]; omega) fun a7 y7 u7 => ?_
      have T7 := T6.step y7 rfl (by omega)
      have m7 := (y7.slot (s + 5) (by omega)).trans m6
      refine no_step (wanted_f rfl hg2 m7) rfl (by rw [T7.size]; omega) fun a8 y8 u8 => ?_
      have T8 := T7.step y8 rfl (by omega)
      have m8 := (y8.slot (s + 5) (by omega)).trans m7
      refine no_step (wanted_f rfl hg2 m8) rfl (by rw [T8.size]; omega) fun a9 y9 u9 => ?_
      have T9 := T8.step y9 rfl (by omega)
      have m9 := (y9.slot (s + 5) (by omega)).trans m8
      refine no_step (wanted_f rfl hg2 m9) rfl (by rw [T9.size]; omega) fun a10 y10 u10 => ?_
      have T10 := T9.step y10 rfl (by omega)
      have m10 := (y10.slot (s + 5) (by omega)).trans m9
      refine no_step (wanted_f rfl hg2 m10) rfl (by rw [T10.size]; omega) fun a11 y11 u11 => ?_
      have T11 := T10.step y11 rfl (by omega)
      have m11 := (y11.slot (s + 5) (by omega)).trans m10
      refine no_step (wanted_f rfl hg2 m11) rfl (by rw [T11.size]; omega) fun a12 y12 u12 => ?_
      have T12 := T11.step y12 rfl (by omega)
      have m12 := (y12.slot (s + 5) (by omega)).trans m11
      refine val_step (wanted_t rfl hgs ((T12.slot gs (by omega)).trans hc)) rfl (by rw [T12.size]; omega) (run_or a12 w _ _ _ _ _ _ _ true false m12 (by intro h; cases h)) fun a13 y13 f13 => ?_
      have T13 := T12.step y13 rfl (by omega)
      refine n_step rfl rfl (by rw [T13.size]; omega) (run_pick a13 w _ _ _ _ _ _ _ true _ ((T13.slot gs (by omega)).trans hc) (fun _ => f13)) fun a14 y14 f14 => ?_
      exact wpList_nil (h a14 _ (T13.step y14 rfl (by omega)) f14)
    | false =>
      rw [hd] at m6
      refine val_step (wanted_f rfl hg2 m6) rfl (by rw [T6.size]; omega) (run_move a6 w _ _ _ _ _ _) fun a7 y7 f7 => ?_
      replace f7 := f7.trans ((T6.slot r (by omega)).trans hr)
      have T7 := T6.step y7 rfl (by omega)
      have m7 := (y7.slot (s + 5) (by omega)).trans m6
      refine val_step (wanted_f rfl hg2 m7) rfl (by rw [T7.size]; omega) (run_move a7 w _ _ _ _ _ _) fun a8 y8 f8 => ?_
      replace f8 := f8.trans ((T7.slot x (by omega)).trans hx)
      have T8 := T7.step y8 rfl (by omega)
      have m8 := (y8.slot (s + 5) (by omega)).trans m7
      refine val_step (wanted_f rfl hg2 m8) rfl (by rw [T8.size]; omega) (run_add a8 w _ _ _ _ _ _ j f8 (by omega) 7 (by omega)) fun a9 y9 f9 => ?_
      have T9 := T8.step y9 rfl (by omega)
      have m9 := (y9.slot (s + 5) (by omega)).trans m8
      refine val_step (wanted_f rfl hg2 m9) rfl (by rw [T9.size]; omega) (run_move a9 w _ _ _ _ _ _) fun a10 y10 f10 => ?_
      replace f10 := f10.trans ((T9.slot x (by omega)).trans hx)
      have T10 := T9.step y10 rfl (by omega)
      have m10 := (y10.slot (s + 5) (by omega)).trans m9
      refine val_step (wanted_f rfl hg2 m10) rfl (by rw [T10.size]; omega) (run_add a10 w _ _ _ _ _ _ j f10 (by omega) 11 (by omega)) fun a11 y11 f11 => ?_
      have T11 := T10.step y11 rfl (by omega)
      have m11 := (y11.slot (s + 5) (by omega)).trans m10
      refine call_step (wanted_f rfl hg2 m11) rfl (by rw [T11.size]; omega) (run_call180 a11 w _ _ _ _ _ _ _ _ _) (by rw [((y11.slot _ (by omega)).trans ((y10.slot _ (by omega)).trans ((y9.slot _ (by omega)).trans ((y8.slot _ (by omega)).trans f7)))), ((y11.slot _ (by omega)).trans ((y10.slot _ (by omega)).trans f9)), f11]; exact hcall _ _ (by omega) (by omega) (by omega) (by omega)) fun a12 d12 y12 f12 => ?_
      have T12 := T11.step y12 rfl (by omega)
      have m12 := (y12.slot (s + 5) (by omega)).trans m11
      refine val_step (wanted_t rfl hgs ((T12.slot gs (by omega)).trans hc)) rfl (by rw [T12.size]; omega) (run_or a12 w _ _ _ _ _ _ _ false d12 m12 (fun _ => f12)) fun a13 y13 f13 => ?_
      have T13 := T12.step y13 rfl (by omega)
      refine n_step rfl rfl (by rw [T13.size]; omega) (run_pick a13 w _ _ _ _ _ _ _ true _ ((T13.slot gs (by omega)).trans hc) (fun _ => f13)) fun a14 y14 f14 => ?_
      exact wpList_nil (h a14 _ (T13.step y14 rfl (by omega)) f14)
set_option maxHeartbeats 1000000 in
theorem tailV {ops : Array Oper} {Q : Exit → Act → World → Prop} {a : Act} {w : World} {t0 t1 t2 t3 t4 t5 t6 t7 t8 t9 t10 t11 t12 t13 t14 t15 : TypeId} {p0 p1 p2 p3 p4 p5 p6 p7 p8 p9 p10 p11 p12 p13 p14 p15 : String} {e0 e1 e2 e3 e4 e5 e6 e7 e8 e9 e10 e11 e12 e13 e14 e15 : Array Edge} {ats0 ats1 : Array TypeId}
    {s g gs g2 r x y : Nat} {c : Bool} (b n j i : Nat) (hgs : (ops[g]?).bind (·.dst) = some gs) (hg2 : (ops[g2]?).bind (·.dst) = some (s + 6)) (hc : a.tmps[gs]?.getD undef = .bool c)
    (hr : a.tmps[r]?.getD undef = slv b n n) (hx : a.tmps[x]?.getD undef = intv j) (hy : a.tmps[y]?.getD undef = intv i) (hi : i ≤ 200) (hj : j ≤ 200)
    (hcall : ∀ u v : Int, -1000 ≤ u → u ≤ 1000 → -1000 ≤ v → v ≤ 1000 → Calls Tryz.prog 181 #[slv b n n, intv j, .int .i64 u, .int .i64 v] w fun e w' => (∃ c, e = .returned (.bool c)) ∧ w = w')
    (h1 : gs < s) (h2 : r < s) (h3 : x < s) (h4 : y < s) (hsz : s + 16 ≤ a.tmps.size)
    (h : ∀ b d, Turned s (s + 16) a b → b.tmps[s + 15]?.getD undef = .bool d → Q .normal b w) :
    wpList Tryz.prog ops Q (
      { dst := some (s), op := .move (.tmp r), type := t0, pos := p0, after := e0, guard := some (g, true) } ::
      { dst := some (s + 1), op := .move (.tmp x), type := t1, pos := p1, after := e1, guard := some (g, true) } ::
      { dst := some (s + 2), op := .move (.tmp y), type := t2, pos := p2, after := e2, guard := some (g, true) } ::
      { dst := some (s + 3), op := .binOp .sub 3 (.tmp (s + 2)) (.const (.int .i64 4)) 3, type := t3, pos := p3, after := e3, guard := some (g, true) } ::
      { dst := some (s + 4), op := .move (.tmp y), type := t4, pos := p4, after := e4, guard := some (g, true) } ::
      { dst := some (s + 5), op := .call { callee := .value (.func 181), args := #[(.tmp s), (.tmp (s + 1)), (.tmp (s + 3)), (.tmp (s + 4))], argTypes := ats0 }, type := t5, pos := p5, after := e5, guard := some (g, true) } ::
      { dst := some (s + 6), op := .move (.tmp (s + 5)), type := t6, pos := p6, after := e6, guard := some (g, true) } ::
      { dst := some (s + 7), op := .move (.tmp r), type := t7, pos := p7, after := e7, guard := some (g2, false) } ::
      { dst := some (s + 8), op := .move (.tmp x), type := t8, pos := p8, after := e8, guard := some (g2, false) } ::
      { dst := some (s + 9), op := .move (.tmp y), type := t9, pos := p9, after := e9, guard := some (g2, false) } ::
      { dst := some (s + 10), op := .binOp .add 3 (.tmp (s + 9)) (.const (.int .i64 7)) 3, type := t10, pos := p10, after := e10, guard := some (g2, false) } ::
      { dst := some (s + 11), op := .move (.tmp y), type := t11, pos := p11, after := e11, guard := some (g2, false) } ::
      { dst := some (s + 12), op := .binOp .add 3 (.tmp (s + 11)) (.const (.int .i64 11)) 3, type := t12, pos := p12, after := e12, guard := some (g2, false) } ::
      { dst := some (s + 13), op := .call { callee := .value (.func 181), args := #[(.tmp (s + 7)), (.tmp (s + 8)), (.tmp (s + 10)), (.tmp (s + 12))], argTypes := ats1 }, type := t13, pos := p13, after := e13, guard := some (g2, false) } ::
      { dst := some (s + 14), op := .pick (.tmp (s + 6)) (.const (.bool true)) (.tmp (s + 13)), type := t14, pos := p14, after := e14, guard := some (g, true) } ::
      { dst := some (s + 15), op := .pick (.tmp gs) (.tmp (s + 14)) (.const (.bool false)), type := t15, pos := p15, after := e15, guard := none } :: []) a w := by
  have T0 : Turned s s a a := Turned.refl _ _ _
  cases c with
  | false =>
    refine no_step (wanted_t rfl hgs ((T0.slot gs (by omega)).trans hc)) rfl (by rw [T0.size]; omega) fun a1 y1 u1 => ?_
    have T1 := T0.step y1 rfl (by omega)
    refine no_step (wanted_t rfl hgs ((T1.slot gs (by omega)).trans hc)) rfl (by rw [T1.size]; omega) fun a2 y2 u2 => ?_
    have T2 := T1.step y2 rfl (by omega)
    refine no_step (wanted_t rfl hgs ((T2.slot gs (by omega)).trans hc)) rfl (by rw [T2.size]; omega) fun a3 y3 u3 => ?_
    have T3 := T2.step y3 rfl (by omega)
    refine no_step (wanted_t rfl hgs ((T3.slot gs (by omega)).trans hc)) rfl (by rw [T3.size]; omega) fun a4 y4 u4 => ?_
    have T4 := T3.step y4 rfl (by omega)
    refine no_step (wanted_t rfl hgs ((T4.slot gs (by omega)).trans hc)) rfl (by rw [T4.size]; omega) fun a5 y5 u5 => ?_
    have T5 := T4.step y5 rfl (by omega)
    refine no_step (wanted_t rfl hgs ((T5.slot gs (by omega)).trans hc)) rfl (by rw [T5.size]; omega) fun a6 y6 u6 => ?_
    have T6 := T5.step y6 rfl (by omega)
    refine no_step (wanted_t rfl hgs ((T6.slot gs (by omega)).trans hc)) rfl (by rw [T6.size]; omega) fun a7 y7 u7 => ?_
    have T7 := T6.step y7 rfl (by omega)
    have z7 := u7
    refine no_step (wanted_u rfl hg2 z7) rfl (by rw [T7.size]; omega) fun a8 y8 u8 => ?_
    have T8 := T7.step y8 rfl (by omega)
    have z8 := (y8.slot (s + 6) (by omega)).trans z7
    refine no_step (wanted_u rfl hg2 z8) rfl (by rw [T8.size]; omega) fun a9 y9 u9 => ?_
    have T9 := T8.step y9 rfl (by omega)
    have z9 := (y9.slot (s + 6) (by omega)).trans z8
    refine no_step (wanted_u rfl hg2 z9) rfl (by rw [T9.size]; omega) fun a10 y10 u10 => ?_
    have T10 := T9.step y10 rfl (by omega)
    have z10 := (y10.slot (s + 6) (by omega)).trans z9
    refine no_step (wanted_u rfl hg2 z10) rfl (by rw [T10.size]; omega) fun a11 y11 u11 => ?_
    have T11 := T10.step y11 rfl (by omega)
    have z11 := (y11.slot (s + 6) (by omega)).trans z10
    refine no_step (wanted_u rfl hg2 z11) rfl (by rw [T11.size]; omega) fun a12 y12 u12 => ?_
    have T12 := T11.step y12 rfl (by omega)
    have z12 := (y12.slot (s + 6) (by omega)).trans z11
    refine no_step (wanted_u rfl hg2 z12) rfl (by rw [T12.size]; omega) fun a13 y13 u13 => ?_
    have T13 := T12.step y13 rfl (by omega)
    have z13 := (y13.slot (s + 6) (by omega)).trans z12
    refine no_step (wanted_u rfl hg2 z13) rfl (by rw [T13.size]; omega) fun a14 y14 u14 => ?_
    have T14 := T13.step y14 rfl (by omega)
    have z14 := (y14.slot (s + 6) (by omega)).trans z13
    refine no_step (wanted_t rfl hgs ((T14.slot gs (by omega)).trans hc)) rfl (by rw [T14.size]; omega) fun a15 y15 u15 => ?_
    have T15 := T14.step y15 rfl (by omega)
    refine n_step rfl rfl (by rw [T15.size]; omega) (run_pick a15 w _ _ _ _ _ _ _ false false ((T15.slot gs (by omega)).trans hc) (by intro h; cases h)) fun a16 y16 f16 => ?_
    exact wpList_nil (h a16 _ (T15.step y16 rfl (by omega)) f16)
  | true =>
    refine val_step (wanted_t rfl hgs ((T0.slot gs (by omega)).trans hc)) rfl (by rw [T0.size]; omega) (run_move a w _ _ _ _ _ _) fun a1 y1 f1 => ?_
    replace f1 := f1.trans ((T0.slot r (by omega)).trans hr)
    have T1 := T0.step y1 rfl (by omega)
    refine val_step (wanted_t rfl hgs ((T1.slot gs (by omega)).trans hc)) rfl (by rw [T1.size]; omega) (run_move a1 w _ _ _ _ _ _) fun a2 y2 f2 => ?_
    replace f2 := f2.trans ((T1.slot x (by omega)).trans hx)
    have T2 := T1.step y2 rfl (by omega)
    refine val_step (wanted_t rfl hgs ((T2.slot gs (by omega)).trans hc)) rfl (by rw [T2.size]; omega) (run_move a2 w _ _ _ _ _ _) fun a3 y3 f3 => ?_
    replace f3 := f3.trans ((T2.slot y (by omega)).trans hy)
    have T3 := T2.step y3 rfl (by omega)
    refine val_step (wanted_t rfl hgs ((T3.slot gs (by omega)).trans hc)) rfl (by rw [T3.size]; omega) (run_sub4 a3 w _ _ _ _ _ _ i f3 (by omega)) fun a4 y4 f4 => ?_
    have T4 := T3.step y4 rfl (by omega)
    refine val_step (wanted_t rfl hgs ((T4.slot gs (by omega)).trans hc)) rfl (by rw [T4.size]; omega) (run_move a4 w _ _ _ _ _ _) fun a5 y5 f5 => ?_
    replace f5 := f5.trans ((T4.slot y (by omega)).trans hy)
    have T5 := T4.step y5 rfl (by omega)
    refine call_step (wanted_t rfl hgs ((T5.slot gs (by omega)).trans hc)) rfl (by rw [T5.size]; omega) (run_call181 a5 w _ _ _ _ _ _ _ _ _ _) (by rw [((y5.slot _ (by omega)).trans ((y4.slot _ (by omega)).trans ((y3.slot _ (by omega)).trans ((y2.slot _ (by omega)).trans f1)))), ((y5.slot _ (by omega)).trans ((y4.slot _ (by omega)).trans ((y3.slot _ (by omega)).trans f2))), ((y5.slot _ (by omega)).trans f4), f5]; exact hcall _ _ (by omega) (by omega) (by omega) (by omega)) fun a6 d6 y6 f6 => ?_
    have T6 := T5.step y6 rfl (by omega)
    refine val_step (wanted_t rfl hgs ((T6.slot gs (by omega)).trans hc)) rfl (by rw [T6.size]; omega) (run_move a6 w _ _ _ _ _ _) fun a7 y7 f7 => ?_
    replace f7 := f7.trans f6
    have T7 := T6.step y7 rfl (by omega)
    have m7 := f7
    cases hd : d6 with
    | true =>
      rw [hd] at m7
      refine no_step (wanted_f rfl hg2 m7) rfl (by rw [T7.size]; omega) fun a8 y8 u8 => ?_
      have T8 := T7.step y8 rfl (by omega)
      have m8 := (y8.slot (s + 6) (by omega)).trans m7
      refine no_step (wanted_f rfl hg2 m8) rfl (by rw [T8.size]; omega) fun a9 y9 u9 => ?_
      have T9 := T8.step y9 rfl (by omega)
      have m9 := (y9.slot (s + 6) (by omega)).trans m8
      refine no_step (wanted_f rfl hg2 m9) rfl (by rw [T9.size]; omega) fun a10 y10 u10 => ?_
      have T10 := T9.step y10 rfl (by omega)
      have m10 := (y10.slot (s + 6) (by omega)).trans m9
      refine no_step (wanted_f rfl hg2 m10) rfl (by rw [T10.size]; omega) fun a11 y11 u11 => ?_
      have T11 := T10.step y11 rfl (by omega)
      have m11 := (y11.slot (s + 6) (by omega)).trans m10
      refine no_step (wanted_f rfl hg2 m11) rfl (by rw [T11.size]; omega) fun a12 y12 u12 => ?_
      have T12 := T11.step y12 rfl (by omega)
      have m12 := (y12.slot (s + 6) (by omega)).trans m11
      refine no_step (wanted_f rfl hg2 m12) rfl (by rw [T12.size]; omega) fun a13 y13 u13 => ?_
      have T13 := T12.step y13 rfl (by omega)
      have m13 := (y13.slot (s + 6) (by omega)).trans m12
      refine no_step (wanted_f rfl hg2 m13) rfl (by rw [T13.size]; omega) fun a14 y14 u14 => ?_
      have T14 := T13.step y14 rfl (by omega)
      have m14 := (y14.slot (s + 6) (by omega)).trans m13
      refine val_step (wanted_t rfl hgs ((T14.slot gs (by omega)).trans hc)) rfl (by rw [T14.size]; omega) (run_or a14 w _ _ _ _ _ _ _ true false m14 (by intro h; cases h)) fun a15 y15 f15 => ?_
      have T15 := T14.step y15 rfl (by omega)
      refine n_step rfl rfl (by rw [T15.size]; omega) (run_pick a15 w _ _ _ _ _ _ _ true _ ((T15.slot gs (by omega)).trans hc) (fun _ => f15)) fun a16 y16 f16 => ?_
      exact wpList_nil (h a16 _ (T15.step y16 rfl (by omega)) f16)
    | false =>
      rw [hd] at m7
      refine val_step (wanted_f rfl hg2 m7) rfl (by rw [T7.size]; omega) (run_move a7 w _ _ _ _ _ _) fun a8 y8 f8 => ?_
      replace f8 := f8.trans ((T7.slot r (by omega)).trans hr)
      have T8 := T7.step y8 rfl (by omega)
      have m8 := (y8.slot (s + 6) (by omega)).trans m7
      refine val_step (wanted_f rfl hg2 m8) rfl (by rw [T8.size]; omega) (run_move a8 w _ _ _ _ _ _) fun a9 y9 f9 => ?_
      replace f9 := f9.trans ((T8.slot x (by omega)).trans hx)
      have T9 := T8.step y9 rfl (by omega)
      have m9 := (y9.slot (s + 6) (by omega)).trans m8
      refine val_step (wanted_f rfl hg2 m9) rfl (by rw [T9.size]; omega) (run_move a9 w _ _ _ _ _ _) fun a10 y10 f10 => ?_
      replace f10 := f10.trans ((T9.slot y (by omega)).trans hy)
      have T10 := T9.step y10 rfl (by omega)
      have m10 := (y10.slot (s + 6) (by omega)).trans m9
      refine val_step (wanted_f rfl hg2 m10) rfl (by rw [T10.size]; omega) (run_add a10 w _ _ _ _ _ _ i f10 (by omega) 7 (by omega)) fun a11 y11 f11 => ?_
      have T11 := T10.step y11 rfl (by omega)
      have m11 := (y11.slot (s + 6) (by omega)).trans m10
      refine val_step (wanted_f rfl hg2 m11) rfl (by rw [T11.size]; omega) (run_move a11 w _ _ _ _ _ _) fun a12 y12 f12 => ?_
      replace f12 := f12.trans ((T11.slot y (by omega)).trans hy)
      have T12 := T11.step y12 rfl (by omega)
      have m12 := (y12.slot (s + 6) (by omega)).trans m11
      refine val_step (wanted_f rfl hg2 m12) rfl (by rw [T12.size]; omega) (run_add a12 w _ _ _ _ _ _ i f12 (by omega) 11 (by omega)) fun a13 y13 f13 => ?_
      have T13 := T12.step y13 rfl (by omega)
      have m13 := (y13.slot (s + 6) (by omega)).trans m12
      refine call_step (wanted_f rfl hg2 m13) rfl (by rw [T13.size]; omega) (run_call181 a13 w _ _ _ _ _ _ _ _ _ _) (by rw [((y13.slot _ (by omega)).trans ((y12.slot _ (by omega)).trans ((y11.slot _ (by omega)).trans ((y10.slot _ (by omega)).trans ((y9.slot _ (by omega)).trans f8))))), ((y13.slot _ (by omega)).trans ((y12.slot _ (by omega)).trans ((y11.slot _ (by omega)).trans ((y10.slot _ (by omega)).trans f9)))), ((y13.slot _ (by omega)).trans ((y12.slot _ (by omega)).trans f11)), f13]; exact hcall _ _ (by omega) (by omega) (by omega) (by omega)) fun a14 d14 y14 f14 => ?_
      have T14 := T13.step y14 rfl (by omega)
      have m14 := (y14.slot (s + 6) (by omega)).trans m13
      refine val_step (wanted_t rfl hgs ((T14.slot gs (by omega)).trans hc)) rfl (by rw [T14.size]; omega) (run_or a14 w _ _ _ _ _ _ _ false d14 m14 (fun _ => f14)) fun a15 y15 f15 => ?_
      have T15 := T14.step y15 rfl (by omega)
      refine n_step rfl rfl (by rw [T15.size]; omega) (run_pick a15 w _ _ _ _ _ _ _ true _ ((T15.slot gs (by omega)).trans hc) (fun _ => f15)) fun a16 y16 f16 => ?_
      exact wpList_nil (h a16 _ (T15.step y16 rfl (by omega)) f16)
end
end Go.Proofs.YtplpafbkalkchaaGreatDoor
