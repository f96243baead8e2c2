/- Walks: the penalty of squares; stretches of white. Laws for chains of guarded tests, over a frame that is a variable. -/
import Derived.Test.YtplpafbkalkchaaGreatDoorW17
namespace Go.Proofs.YtplpafbkalkchaaGreatDoor
open Go Go.RowKit Go.Proofs
set_option linter.all false

section
set_option maxRecDepth 100000 in
set_option maxHeartbeats 4000000 in
theorem pen2_c {w : World} {B R n : Nat} {M : Nat → Nat → Int} (h : BM w B R n M) (hn : n ≤ 200) (hn1 : 1 ≤ n) :
    Calls Tryz.prog 143 #[ptv B] w fun e w' => (∃ p : Nat, p ≤ 10000000 ∧ e = .returned (intv p)) ∧ w = w' := by
  have hni : (n : Int) ≤ 200 := by omega
  have hn1i : (1 : Int) ≤ n := by omega
  have H := Lib.hid h; clear h
  go_enter Tryz.func143, Tryz.ntmps143
  go_wp2_with fail
  refine (array_c H.out).mono ?_
  rintro e w1 ⟨rfl, rfl⟩
  go_wp2_with fail
  refine (width_c H.out).mono ?_
  rintro e w1 ⟨rfl, rfl⟩
  go_wp2_with fail
  refine (height_c H.out).mono ?_
  rintro e w1 ⟨rfl, rfl⟩
  go_wp2_with fail
  go_loopw [3, 7] (fun a c wr => ∃ p i : Nat, i + 1 ≤ n ∧ p ≤ 200 * i ∧ a = intv p ∧ c = intv i ∧ w = wr) (fun _ a _ => n - (intOf a).toNat)
  case atStart => exact ⟨0, 0, by omega, by omega, rfl, rfl, rfl⟩
  case round =>
    obtain ⟨p, i, hi, hp, rfl, rfl, rfl⟩ := hrel
    have hi9 : (i : Int) ≤ 200 := by omega
    have hp9 : (p : Int) ≤ 40000 := by omega
    by_cases hlt : i + 1 < n
    · have hlti : (i : Int) < (n : Int) - 1 := by omega
      have hr1 := H.out.rows.at (rowOf_get _ (show i < n by omega))
      have hr2 := H.out.rows.at (rowOf_get _ (show i + 1 < n by omega))
      go_wp2_with fail
      go_loopw [3, 9] (fun a f wr => ∃ (p2 j : Nat), j + 1 ≤ n ∧ p2 ≤ 200 * i + j ∧ a = intv p2 ∧ f = intv j ∧ w = wr) (fun _ a _ => n - (intOf a).toNat)
      case atStart => exact ⟨p, 0, by omega, by omega, rfl, rfl, rfl⟩
      case round =>
        obtain ⟨p2, j, hj, hp2, rfl, rfl, rfl⟩ := hrel
        have hj9 : (j : Int) ≤ 200 := by omega
        have hp29 : (p2 : Int) ≤ 40200 := by omega
        by_cases hjt : j + 1 < n
        · have hjti : (j : Int) < (n : Int) - 1 := by omega
          have c1 := (H.out.row i (by omega)).at (rowOf_get _ (show j < n by omega))
          have c2 := (H.out.row i (by omega)).at (rowOf_get _ (show j + 1 < n by omega))
          have c3 := (H.out.row (i + 1) (by omega)).at (rowOf_get _ (show j < n by omega))
          have c4 := (H.out.row (i + 1) (by omega)).at (rowOf_get _ (show j + 1 < n by omega))
          obtain ⟨x, hx⟩ : ∃ x, M i j = x := ⟨_, rfl⟩
          obtain ⟨y, hy⟩ : ∃ y, M i (j + 1) = y := ⟨_, rfl⟩
          obtain ⟨z, hz⟩ : ∃ z, M (i + 1) j = z := ⟨_, rfl⟩
          obtain ⟨u, hu⟩ : ∃ u, M (i + 1) (j + 1) = u := ⟨_, rfl⟩
          rw [hx] at c1; rw [hy] at c2; rw [hz] at c3; rw [hu] at c4
          clear hx hy hz hu
          go_wp2_with fail
          all_goals
            go_roundw
            case rel =>
              first
              | exact ⟨p2, j + 1, by omega, by omega, rfl, by congr 1, by trivial⟩
              | exact ⟨p2 + 1, j + 1, by omega, by omega, by congr 1, by congr 1, by trivial⟩
            case measure => simp [intOf]; omega
        · obtain rfl : n = j + 1 := by omega
          go_wp2_with fail
          go_roundw
          case rel => exact ⟨p2, i + 1, by omega, by omega, by go_num, by go_num, by trivial⟩
          case measure => simp [intOf]; omega
    · obtain rfl : n = i + 1 := by omega
      go_wp2_with fail
      go_ret
      exact ⟨⟨3 * p, by omega, by congr 1⟩, rfl⟩
/-- It returned a yes or a no. -/
def someBool (e : Ending) : Prop := ∃ c, e = .returned (.bool c)
theorem someBool.mk (c : Bool) : someBool (.returned (.bool c)) := ⟨c, rfl⟩
set_option maxRecDepth 100000 in
set_option maxHeartbeats 4000000 in
theorem whiteH_c {w : World} {b n : Nat} {f : Nat → Int} (h : Blk w b (rowOf n fun x => i8v (f x)) 145) (hn : n ≤ 200) (s t : Int) (hs : -1000 ≤ s) (ht : t ≤ 1000) (hs2 : s ≤ 1000) (ht2 : -1000 ≤ t) :
    Calls Tryz.prog 180 #[slv b n n, .int .i64 s, .int .i64 t] w fun e w' => someBool e ∧ w = w' := by
  have hni : (n : Int) ≤ 200 := by omega
  have H := Lib.hid h; clear h
  by_cases h1 : s < 0 <;> by_cases h2 : (n : Int) < t
  all_goals
    go_enter Tryz.func180, Tryz.ntmps180
    go_wp2_with fail
    go_loopw [7] (fun a wr => ∃ i : Int, 0 ≤ i ∧ i ≤ 1000 ∧ a = .int .i64 i ∧ w = wr) (fun a _ => (1000 - intOf a).toNat)
    case atStart => exact ⟨_, by omega, by omega, rfl, rfl⟩
    case round =>
      obtain ⟨i, hi0, hi, rfl, rfl⟩ := hrel
      by_cases hin : i < n
      · obtain ⟨j, rfl⟩ : ∃ j : Nat, i = j := ⟨i.toNat, by omega⟩
        have c1 := H.out.at (rowOf_get _ (show j < n by omega))
        obtain ⟨x, hx⟩ : ∃ x, f j = x := ⟨_, rfl⟩
        rw [hx] at c1
        clear hx
        go_wp2_with fail
        all_goals
          first
          | (go_ret; exact ⟨.mk _, rfl⟩)
          | (go_roundw
             case rel => exact ⟨(j : Int) + 1, by omega, by omega, by congr 1, by trivial⟩
             case measure => simp [intOf]; omega)
      · try have hit : ¬ i < t := by omega
        go_wp2_with fail
        go_ret
        exact ⟨.mk _, rfl⟩
set_option maxRecDepth 100000 in
set_option maxHeartbeats 4000000 in
theorem whiteV_c {w : World} {B R n : Nat} {M : Nat → Nat → Int} (h : BM w B R n M) (hn : n ≤ 200) (x : Nat) (hx : x < n) (s t : Int) (hs : -1000 ≤ s) (ht : t ≤ 1000) (hs2 : s ≤ 1000) (ht2 : -1000 ≤ t) :
    Calls Tryz.prog 181 #[slv R n n, intv x, .int .i64 s, .int .i64 t] w fun e w' => someBool e ∧ w = w' := by
  have hni : (n : Int) ≤ 200 := by omega
  have H := Lib.hid h; clear h
  by_cases h1 : s < 0 <;> by_cases h2 : (n : Int) < t
  all_goals
    go_enter Tryz.func181, Tryz.ntmps181
    go_wp2_with fail
    go_loopw [9] (fun a wr => ∃ i : Int, 0 ≤ i ∧ i ≤ 1000 ∧ a = .int .i64 i ∧ w = wr) (fun a _ => (1000 - intOf a).toNat)
    case atStart => exact ⟨_, by omega, by omega, rfl, rfl⟩
    case round =>
      obtain ⟨i, hi0, hi, rfl, rfl⟩ := hrel
      by_cases hin : i < n
      · obtain ⟨j, rfl⟩ : ∃ j : Nat, i = j := ⟨i.toNat, by omega⟩
        have c0 := H.out.rows.at (rowOf_get _ (show j < n by omega))
        have c1 := (H.out.row j (by omega)).at (rowOf_get _ hx)
        obtain ⟨u, hu⟩ : ∃ u, M j x = u := ⟨_, rfl⟩
        rw [hu] at c1
        clear hu
        go_wp2_with fail
        all_goals
          first
          | (go_ret; exact ⟨.mk _, rfl⟩)
          | (go_roundw
             case rel => exact ⟨(j : Int) + 1, by omega, by omega, by congr 1, by trivial⟩
             case measure => simp [intOf]; omega)
      · try have hit : ¬ i < t := by omega
        go_wp2_with fail
        go_ret
        exact ⟨.mk _, rfl⟩
end

section
/-- From a to b only the slots lo .. hi - 1 have turned. -/
structure Turned (lo hi : Nat) (a b : Act) : Prop where
  defers : b.defers = a.defers
  size : b.tmps.size = a.tmps.size
  slot : ∀ k, k < lo ∨ hi ≤ k → b.tmps[k]?.getD undef = a.tmps[k]?.getD undef
theorem Turned.refl (lo hi : Nat) (a : Act) : Turned lo hi a a := ⟨rfl, rfl, fun _ _ => rfl⟩
theorem put_getD (a : Act) (d k : Nat) (v : Value) (hd : d < a.tmps.size) : (a.put (some d) v).tmps[k]?.getD undef = if k = d then v else a.tmps[k]?.getD undef := by
  unfold Act.put
  simp only [Array.getElem?_setIfInBounds]
  by_cases h : d = k
  · subst h; simp [hd]
  · rw [if_neg h, if_neg (Ne.symm h)]
theorem put_size (a : Act) (d : Option Nat) (v : Value) : (a.put d v).tmps.size = a.tmps.size := by
  unfold Act.put; split <;> simp
theorem put_defers (a : Act) (d : Option Nat) (v : Value) : (a.put d v).defers = a.defers := by
  unfold Act.put; split <;> rfl
theorem Turned.put {lo hi : Nat} {a b : Act} (h : Turned lo hi a b) (d : Nat) (v : Value) (h1 : lo ≤ d) (h2 : d < hi) (h3 : d < a.tmps.size) : Turned lo hi a (b.put (some d) v) :=
  ⟨by rw [put_defers]; exact h.defers, by rw [put_size]; exact h.size, fun k hk => by
    rw [put_getD _ _ _ _ (by rw [h.size]; exact h3), if_neg (by omega)]; exact h.slot k hk⟩
section
variable {P : Program} {ops : Array Oper} {Q : Exit → Act → World → Prop} {a : Act} {w : World} {rest : List Oper}
theorem step_val {o : Oper} (v : Value) (hw : Region.wanted o (yielded ops a.tmps) = true) (hv : (execOp a.eval o).run P w = .ok (.value v) w) (h : wpList P ops Q rest (a.put o.dst v) w) : wpList P ops Q (o :: rest) a w := by
  unfold wpList; rw [if_pos hw]; left; unfold Oper.wp; rw [hv]; exact h
theorem step_no {o : Oper} (hw : Region.wanted o (yielded ops a.tmps) = false) (h : wpList P ops Q rest (a.put o.dst undef) w) : wpList P ops Q (o :: rest) a w := wpList_skip hw h
end
/-- A slot's value. -/
abbrev Act.at' (a : Act) (k : Nat) : Value := a.tmps[k]?.getD undef
theorem Turned.put1 (a : Act) (d : Nat) (v : Value) (hd : d < a.tmps.size) : Turned d (d + 1) a (a.put (some d) v) :=
  (Turned.refl _ _ a).put d v (Nat.le_refl _) (by omega) hd
theorem Turned.trans {lo hi l h : Nat} {a b c : Act} (x : Turned lo hi a b) (y : Turned l h b c) (h1 : lo ≤ l) (h2 : h ≤ hi) : Turned lo hi a c :=
  ⟨y.defers.trans x.defers, y.size.trans x.size, fun k hk => (y.slot k (by omega)).trans (x.slot k hk)⟩
theorem Turned.step {lo hi d : Nat} {a b c : Act} (x : Turned lo hi a b) (y : Turned d (d + 1) b c) (h : d = hi) (hl : lo ≤ hi) : Turned lo (hi + 1) a c :=
  ⟨y.defers.trans x.defers, y.size.trans x.size, fun k hk => (y.slot k (by omega)).trans (x.slot k (by omega))⟩
theorem Turned.join {lo m hi d : Nat} {a b c : Act} (x : Turned lo m a b) (y : Turned d hi b c) (h : d = m) (hl : lo ≤ m ∧ m ≤ hi) : Turned lo hi a c :=
  ⟨y.defers.trans x.defers, y.size.trans x.size, fun k hk => (y.slot k (by omega)).trans (x.slot k (by omega))⟩
theorem yielded_bool {ops : Array Oper} {tmps : Array Value} {g gs : Nat} {c : Bool} (h1 : (ops[g]?).bind (·.dst) = some gs) (h2 : tmps[gs]?.getD undef = .bool c) : yielded ops tmps g = some c := by
  unfold yielded
  rw [h1]
  show (match tmps[gs]? with | some (.bool b) => some b | _ => none) = _
  cases h : tmps[gs]? with
  | none => rw [h] at h2; simp [undef] at h2
  | some v => rw [h] at h2; simp at h2; rw [h2]
section
variable {P : Program} {ops : Array Oper} {Q : Exit → Act → World → Prop} {a : Act} {w : World} {rest : List Oper}
/-- An operation under a guard whose answer is a variable. -/
theorem g_step {o : Oper} {g gs d : Nat} {c : Bool} {v : Value} (hg : o.guard = some (g, true)) (hgs : (ops[g]?).bind (·.dst) = some gs) (hc : a.tmps[gs]?.getD undef = .bool c) (hd : o.dst = some d) (hsz : d < a.tmps.size)
    (hv : c = true → (execOp a.eval o).run P w = .ok (.value v) w) (h : ∀ b, Turned d (d + 1) a b → (c = true → b.tmps[d]?.getD undef = v) → wpList P ops Q rest b w) : wpList P ops Q (o :: rest) a w := by
  have hw : Region.wanted o (yielded ops a.tmps) = c := by
    unfold Region.wanted; rw [hg]; show (yielded ops a.tmps g == some true) = c; rw [yielded_bool hgs hc]; cases c <;> rfl
  cases c with
  | true => exact step_val v hw (hv rfl) (by rw [hd]; exact h _ (Turned.put1 a d v hsz) fun _ => by rw [put_getD _ _ _ _ hsz, if_pos rfl])
  | false => exact step_no hw (by rw [hd]; exact h _ (Turned.put1 a d _ hsz) (by intro h; cases h))
theorem n_step {o : Oper} {d : Nat} {v : Value} (hg : o.guard = none) (hd : o.dst = some d) (hsz : d < a.tmps.size)
    (hv : (execOp a.eval o).run P w = .ok (.value v) w) (h : ∀ b, Turned d (d + 1) a b → b.tmps[d]?.getD undef = v → wpList P ops Q rest b w) : wpList P ops Q (o :: rest) a w :=
  step_val v (by unfold Region.wanted; rw [hg]) hv (by rw [hd]; exact h _ (Turned.put1 a d v hsz) (by rw [put_getD _ _ _ _ hsz, if_pos rfl]))
end
theorem run_move (a : Act) (w : World) (t : TypeId) (p : String) (e : Array Edge) (gd : Option (Nat × Bool)) (d x : Nat) : (execOp a.eval { dst := some d, op := .move (.tmp x), type := t, pos := p, after := e, guard := gd }).run Tryz.prog w = .ok (.value (a.tmps[x]?.getD undef)) w := by
  simp [go_sem]
theorem run_index (a : Act) (w : World) (t : TypeId) (p : String) (e : Array Edge) (gd : Option (Nat × Bool)) (d x y : Nat) (b n j : Nat) (hb : a.tmps[x]?.getD undef = slv b n n) (hj : a.tmps[y]?.getD undef = intv j) (hn : j < n) : (execOp a.eval { dst := some d, op := .indexAddr 221 (.tmp x) (.tmp y), type := t, pos := p, after := e, guard := gd }).run Tryz.prog w = .ok (.value (.pointer (some ⟨b, j, none⟩))) w := by
  simp [go_sem, hb, hj, hn]
theorem run_load (a : Act) (w : World) (t : TypeId) (p : String) (e : Array Edge) (gd : Option (Nat × Bool)) (d x : Nat) (b j : Nat) (v : Int) (hb : a.tmps[x]?.getD undef = .pointer (some ⟨b, j, none⟩)) (hj : w.cell? ⟨b, j, none⟩ = some (i8v v)) : (execOp a.eval { dst := some d, op := .load 145 (.tmp x), type := t, pos := p, after := e, guard := gd }).run Tryz.prog w = .ok (.value (i8v v)) w := by
  simp [go_sem, hb, hj]
theorem run_eql (a : Act) (w : World) (t : TypeId) (p : String) (e : Array Edge) (gd : Option (Nat × Bool)) (d x : Nat) (v u : Int) (hb : a.tmps[x]?.getD undef = i8v v) : (execOp a.eval { dst := some d, op := .binOp .eql 145 (.tmp x) (.const (.int .i8 u)) 145, type := t, pos := p, after := e, guard := gd }).run Tryz.prog w = .ok (.value (.bool (v == u))) w := by
  simp [go_sem, hb]
theorem run_add (a : Act) (w : World) (t : TypeId) (p : String) (e : Array Edge) (gd : Option (Nat × Bool)) (d x : Nat) (j : Nat) (hb : a.tmps[x]?.getD undef = intv j) (hj : j ≤ 1000) (c : Nat) (hc : c ≤ 1000) : (execOp a.eval { dst := some d, op := .binOp .add 3 (.tmp x) (.const (.int .i64 c)) 3, type := t, pos := p, after := e, guard := gd }).run Tryz.prog w = .ok (.value (intv (j + c))) w := by
  have h2 : IntKind.i64.wrap ((j : Int) + (c : Int)) = (j : Int) + c := by rw [IntKind.wrap_i64]; omega
  simp [go_sem, hb, h2]
theorem run_pick (a : Act) (w : World) (t : TypeId) (p : String) (e : Array Edge) (gd : Option (Nat × Bool)) (d x y : Nat) (c b : Bool) (hb : a.tmps[x]?.getD undef = .bool c) (hy : c = true → a.tmps[y]?.getD undef = .bool b) : (execOp a.eval { dst := some d, op := .pick (.tmp x) (.tmp y) (.const (.bool false)), type := t, pos := p, after := e, guard := gd }).run Tryz.prog w = .ok (.value (.bool (c && b))) w := by
  cases c
  · simp [go_sem, hb]
  · have e2 := hy rfl
    simp [go_sem, hb, e2]
theorem run_index220 (a : Act) (w : World) (t : TypeId) (p : String) (e : Array Edge) (gd : Option (Nat × Bool)) (d x y : Nat) (b n j : Nat) (hb : a.tmps[x]?.getD undef = slv b n n) (hj : a.tmps[y]?.getD undef = intv j) (hn : j < n) : (execOp a.eval { dst := some d, op := .indexAddr 220 (.tmp x) (.tmp y), type := t, pos := p, after := e, guard := gd }).run Tryz.prog w = .ok (.value (.pointer (some ⟨b, j, none⟩))) w := by
  simp [go_sem, hb, hj, hn]
theorem run_load221 (a : Act) (w : World) (t : TypeId) (p : String) (e : Array Edge) (gd : Option (Nat × Bool)) (d x : Nat) (b j : Nat) (v : Value) (hb : a.tmps[x]?.getD undef = .pointer (some ⟨b, j, none⟩)) (hj : w.cell? ⟨b, j, none⟩ = some (v)) : (execOp a.eval { dst := some d, op := .load 221 (.tmp x), type := t, pos := p, after := e, guard := gd }).run Tryz.prog w = .ok (.value (v)) w := by
  simp [go_sem, hb, hj]
theorem run_sub4 (a : Act) (w : World) (t : TypeId) (p : String) (e : Array Edge) (gd : Option (Nat × Bool)) (d x : Nat) (j : Nat) (hb : a.tmps[x]?.getD undef = intv j) (hj : j ≤ 1000) : (execOp a.eval { dst := some d, op := .binOp .sub 3 (.tmp x) (.const (.int .i64 4)) 3, type := t, pos := p, after := e, guard := gd }).run Tryz.prog w = .ok (.value (.int .i64 ((j : Int) - 4))) w := by
  have h2 : IntKind.i64.wrap ((j : Int) - 4) = (j : Int) - 4 := by rw [IntKind.wrap_i64]; omega
  simp [go_sem, hb, h2]
theorem run_lss (a : Act) (w : World) (t : TypeId) (p : String) (e : Array Edge) (gd : Option (Nat × Bool)) (d x y : Nat) (i j : Nat) (hb : a.tmps[x]?.getD undef = intv i) (hy : a.tmps[y]?.getD undef = intv j) : (execOp a.eval { dst := some d, op := .binOp .lss 3 (.tmp x) (.tmp y) 3, type := t, pos := p, after := e, guard := gd }).run Tryz.prog w = .ok (.value (.bool (decide (i < j)))) w := by
  simp [go_sem, hb, hy]
theorem run_or (a : Act) (w : World) (t : TypeId) (p : String) (e : Array Edge) (gd : Option (Nat × Bool)) (d x y : Nat) (c b : Bool) (hb : a.tmps[x]?.getD undef = .bool c) (hy : c = false → a.tmps[y]?.getD undef = .bool b) : (execOp a.eval { dst := some d, op := .pick (.tmp x) (.const (.bool true)) (.tmp y), type := t, pos := p, after := e, guard := gd }).run Tryz.prog w = .ok (.value (.bool (c || b))) w := by
  cases c
  · have e2 := hy rfl
    simp [go_sem, hb, e2]
  · simp [go_sem, hb]
section
variable {ops : Array Oper} {Q : Exit → Act → World → Prop} {a : Act} {w : World} {rest : List Oper}
theorem call_step {o : Oper} {f : FuncId} {args : Array Value} {d : Nat} (hw : Region.wanted o (yielded ops a.tmps) = true) (hd : o.dst = some d) (hsz : d < a.tmps.size)
    (hv : (execOp a.eval o).run Tryz.prog w = .ok (.enter f args) w) (hf : Calls Tryz.prog f args w fun e w' => (∃ c, e = .returned (.bool c)) ∧ w = w')
    (h : ∀ b c, Turned d (d + 1) a b → b.tmps[d]?.getD undef = .bool c → wpList Tryz.prog ops Q rest b w) : wpList Tryz.prog ops Q (o :: rest) a w := by
  unfold wpList; rw [if_pos hw]; left; unfold Oper.wp; rw [hv, Oper.upon_enter]
  refine hf.mono ?_
  rintro e w1 ⟨⟨c, rfl⟩, rfl⟩
  rw [hd]
  exact h _ c (Turned.put1 a d _ hsz) (by rw [put_getD _ _ _ _ hsz, if_pos rfl])
theorem no_step {o : Oper} {d : Nat} (hw : Region.wanted o (yielded ops a.tmps) = false) (hd : o.dst = some d) (hsz : d < a.tmps.size) (h : ∀ b, Turned d (d + 1) a b → b.tmps[d]?.getD undef = undef → wpList Tryz.prog ops Q rest b w) : wpList Tryz.prog ops Q (o :: rest) a w :=
  step_no hw (by rw [hd]; exact h _ (Turned.put1 a d _ hsz) (by rw [put_getD _ _ _ _ hsz, if_pos rfl]))
end
theorem run_enter {P : Program} {f : FuncId} {fn : Func} (hf : P.funcs[f]? = some fn) (hn : (fn.name == "runtime.NumGoroutine") = false) (hb : fn.body.isNone = false) (args : Array Value) (w : World) : (callFunc f args).run P w = .ok (.enter f args) w := by
  have h1 : ¬ fn.name = "runtime.NumGoroutine" := by simpa using hn
  have h2 : ¬ fn.body = none := by intro h; rw [h] at hb; cases hb
  simp [callFunc, go_sem, hf, h1, h2]
theorem yielded_undef {ops : Array Oper} {tmps : Array Value} {g gs : Nat} (h1 : (ops[g]?).bind (·.dst) = some gs) (h2 : tmps[gs]?.getD undef = undef) : yielded ops tmps g = none := by
  unfold yielded
  rw [h1]
  show (match tmps[gs]? with | some (.bool b) => some b | _ => none) = _
  cases h : tmps[gs]? with
  | none => rfl
  | some v => rw [h] at h2; simp at h2; rw [h2]; rfl
theorem wanted_t {ops : Array Oper} {a : Act} {o : Oper} {g gs : Nat} {c : Bool} (hg : o.guard = some (g, true)) (hgs : (ops[g]?).bind (·.dst) = some gs) (hc : a.tmps[gs]?.getD undef = .bool c) : Region.wanted o (yielded ops a.tmps) = c := by
  unfold Region.wanted; rw [hg]; show (yielded ops a.tmps g == some true) = c; rw [yielded_bool hgs hc]; cases c <;> rfl
theorem wanted_f {ops : Array Oper} {a : Act} {o : Oper} {g gs : Nat} {c : Bool} (hg : o.guard = some (g, false)) (hgs : (ops[g]?).bind (·.dst) = some gs) (hc : a.tmps[gs]?.getD undef = .bool c) : Region.wanted o (yielded ops a.tmps) = !c := by
  unfold Region.wanted; rw [hg]; show (yielded ops a.tmps g == some false) = !c; rw [yielded_bool hgs hc]; cases c <;> rfl
theorem wanted_u {ops : Array Oper} {a : Act} {o : Oper} {g gs : Nat} {x : Bool} (hg : o.guard = some (g, x)) (hgs : (ops[g]?).bind (·.dst) = some gs) (hc : a.tmps[gs]?.getD undef = undef) : Region.wanted o (yielded ops a.tmps) = false := by
  unfold Region.wanted; rw [hg]; show (yielded ops a.tmps g == some x) = false; rw [yielded_undef hgs hc]; rfl
section
variable {P : Program} {ops : Array Oper} {Q : Exit → Act → World → Prop} {a : Act} {w : World} {rest : List Oper}
theorem val_step {o : Oper} {d : Nat} {v : Value} (hw : Region.wanted o (yielded ops a.tmps) = true) (hd : o.dst = some d) (hsz : d < a.tmps.size)
    (hv : (execOp a.eval o).run P w = .ok (.value v) w) (h : ∀ b, Turned d (d + 1) a b → b.tmps[d]?.getD undef = v → wpList P ops Q rest b w) : wpList P ops Q (o :: rest) a w :=
  step_val v hw hv (by rw [hd]; exact h _ (Turned.put1 a d v hsz) (by rw [put_getD _ _ _ _ hsz, if_pos rfl]))
end
theorem run_call180 (a : Act) (w : World) (t : TypeId) (p : String) (e : Array Edge) (gd : Option (Nat × Bool)) (ats : Array TypeId) (d x y z : Nat) : (execOp a.eval { dst := some d, op := .call { callee := .value (.func 180), args := #[.tmp x, .tmp y, .tmp z], argTypes := ats }, type := t, pos := p, after := e, guard := gd }).run Tryz.prog w = .ok (.enter 180 #[a.tmps[x]?.getD undef, a.tmps[y]?.getD undef, a.tmps[z]?.getD undef]) w := by
  simp only [execOp_call_go]
  rw [run_enter Tryz.func180 (by rfl) (by rfl)]
  simp [go_sem]
theorem run_call181 (a : Act) (w : World) (t : TypeId) (p : String) (e : Array Edge) (gd : Option (Nat × Bool)) (ats : Array TypeId) (d x y z u : Nat) : (execOp a.eval { dst := some d, op := .call { callee := .value (.func 181), args := #[.tmp x, .tmp y, .tmp z, .tmp u], argTypes := ats }, type := t, pos := p, after := e, guard := gd }).run Tryz.prog w = .ok (.enter 181 #[a.tmps[x]?.getD undef, a.tmps[y]?.getD undef, a.tmps[z]?.getD undef, a.tmps[u]?.getD undef]) w := by
  simp only [execOp_call_go]
  rw [run_enter Tryz.func181 (by rfl) (by rfl)]
  simp [go_sem]
end
end Go.Proofs.YtplpafbkalkchaaGreatDoor
