/- Walks: tables of rows; the patterns of the corners and of alignment. Walks: square patterns are laid. (Printed by gen_m4.py.) Walks: separators, the dark module, the timing lines. (Printed by gen_m5.py.) Walks: the timing lines; the coordinates of alignment patterns, their laying. -/
import Derived.Test.YtplpafbkalkchaaGreatDoorW17
namespace Go.Proofs.YtplpafbkalkchaaGreatDoor
open Go Go.RowKit Go.Proofs
set_option linter.all false

section
/-- Rows, made one behind the other. -/
def allocs (T : TypeId) : World → List (List Value) → World
  | w, [] => w
  | w, r :: rs => allocs T (w.alloc (.cells r.toArray T)) rs
theorem allocs_kept (T : TypeId) (L : List (List Value)) : ∀ w, Kept [] w (allocs T w L) := by
  induction L with
  | nil => exact fun w => Kept.refl _ _
  | cons r rs ih => exact fun w => ((Kept.refl [] w).alloc _).trans0 (ih _)
theorem allocs_size (T : TypeId) (L : List (List Value)) : ∀ w, (allocs T w L).heap.size = w.heap.size + L.length := by
  induction L with
  | nil => exact fun w => rfl
  | cons r rs ih => intro w; unfold allocs; rw [ih]; simp; omega
theorem allocs_blk (T : TypeId) (L : List (List Value)) : ∀ w i r, L[i]? = some r → Blk (allocs T w L) (w.heap.size + i) r T := by
  induction L with
  | nil => intro w i r h; simp at h
  | cons a rs ih =>
    intro w i r h
    unfold allocs
    cases i with
    | zero => simp at h; subst h; exact (allocs_kept T rs _).blk (Blk.new w a T) (by simp)
    | succ j =>
      simp at h
      have := ih (w.alloc (.cells a.toArray T)) j r h
      rw [World.size_alloc] at this
      rw [show w.heap.size + (j + 1) = w.heap.size + 1 + j from by omega]
      exact this
/-- A table of nr rows of m values each: its rows lie from A on, the list of them behind. -/
structure Tab (w : World) (A nr m : Nat) (f : Nat → Nat → Value) (Tr To : TypeId) : Prop where
  outer : Blk w (A + nr) (rowOf nr fun y => slv (A + y) m m) To
  row : ∀ y, y < nr → Blk w (A + y) (rowOf m (f y)) Tr
def tabRows (nr m : Nat) (f : Nat → Nat → Value) : List (List Value) := (List.range nr).map fun y => rowOf m (f y)
def tabWorld (w : World) (nr m : Nat) (f : Nat → Nat → Value) (Tr To : TypeId) : World :=
  (allocs Tr w (tabRows nr m f)).alloc (.cells (rowOf nr fun y => slv (w.heap.size + y) m m).toArray To)
theorem tab_of (w : World) (nr m : Nat) (f : Nat → Nat → Value) (Tr To : TypeId) : Tab (tabWorld w nr m f Tr To) w.heap.size nr m f Tr To ∧ Kept [] w (tabWorld w nr m f Tr To) := by
  have hl : (tabRows nr m f).length = nr := by simp [tabRows]
  refine ⟨⟨?_, fun y hy => ?_⟩, (allocs_kept Tr _ w).alloc _⟩
  · have := Blk.new (allocs Tr w (tabRows nr m f)) (rowOf nr fun y => slv (w.heap.size + y) m m) To
    rw [allocs_size, hl] at this; exact this
  · exact (allocs_blk Tr _ w y _ (by simp [tabRows, hy])).alloc _
/-- The pattern of a corner. -/
def pdp (y x : Nat) : Int := if y = 0 ∨ y = 6 ∨ x = 0 ∨ x = 6 then 1 else if 2 ≤ y ∧ y ≤ 4 ∧ 2 ≤ x ∧ x ≤ 4 then 1 else 0
/-- The pattern of alignment. -/
def pap (y x : Nat) : Int := if y = 0 ∨ y = 4 ∨ x = 0 ∨ x = 4 then 1 else if y = 2 ∧ x = 2 then 1 else 0
set_option maxRecDepth 100000 in
theorem pdpTable_c (w : World) : Calls Tryz.prog 182 #[] w fun e w' => (∃ A, e = .returned (slv (A + 7) 7 7) ∧ Tab w' A 7 7 (fun y x => i8v (pdp y x)) 145 221 ∧ w.heap.size ≤ A) ∧ Kept [] w w' := by
  go_enter Tryz.func182, Tryz.ntmps182
  go_wp2
  go_ret
  have h := tab_of w 7 7 (fun y x => i8v (pdp y x)) 145 221
  exact ⟨⟨w.heap.size, rfl, h.1, Nat.le_refl _⟩, h.2⟩
set_option maxRecDepth 100000 in
theorem papTable_c (w : World) : Calls Tryz.prog 219 #[] w fun e w' => (∃ A, e = .returned (slv (A + 5) 5 5) ∧ Tab w' A 5 5 (fun y x => i8v (pap y x)) 145 221 ∧ w.heap.size ≤ A) ∧ Kept [] w w' := by
  go_enter Tryz.func219, Tryz.ntmps219
  go_wp2
  go_ret
  have h := tab_of w 5 5 (fun y x => i8v (pap y x)) 145 221
  exact ⟨⟨w.heap.size, rfl, h.1, Nat.le_refl _⟩, h.2⟩
end

section
/-- M with a square of s rows laid over it, its corner in the row ys, the column xs; k rows and j cells of the next one have been laid. -/
def laidTo (M : Nat → Nat → Int) (ys xs s : Nat) (f : Nat → Nat → Int) (k j : Nat) : Nat → Nat → Int :=
  fun y x => if ys ≤ y ∧ xs ≤ x ∧ x < xs + s ∧ (y < ys + k ∨ (y = ys + k ∧ x < xs + j)) then f (y - ys) (x - xs) else M y x
def overlay (M : Nat → Nat → Int) (ys xs s : Nat) (f : Nat → Nat → Int) : Nat → Nat → Int :=
  fun y x => if ys ≤ y ∧ y < ys + s ∧ xs ≤ x ∧ x < xs + s then f (y - ys) (x - xs) else M y x
theorem laidTo_zero (M : Nat → Nat → Int) (ys xs s : Nat) (f : Nat → Nat → Int) : laidTo M ys xs s f 0 0 = M := by
  funext y x; unfold laidTo; rw [if_neg (by omega)]
theorem laidTo_row (M : Nat → Nat → Int) (ys xs s : Nat) (f : Nat → Nat → Int) (k : Nat) : laidTo M ys xs s f k s = laidTo M ys xs s f (k + 1) 0 := by
  funext y x; unfold laidTo
  by_cases h : ys ≤ y ∧ xs ≤ x ∧ x < xs + s ∧ (y < ys + k ∨ (y = ys + k ∧ x < xs + s))
  · rw [if_pos h, if_pos (by omega)]
  · rw [if_neg h, if_neg (by omega)]
theorem laidTo_all (M : Nat → Nat → Int) (ys xs s : Nat) (f : Nat → Nat → Int) : laidTo M ys xs s f s 0 = overlay M ys xs s f := by
  funext y x; unfold laidTo overlay
  by_cases h : ys ≤ y ∧ xs ≤ x ∧ x < xs + s ∧ (y < ys + s ∨ (y = ys + s ∧ x < xs + 0))
  · rw [if_pos h, if_pos (by omega)]
  · rw [if_neg h, if_neg (by omega)]
theorem laidTo_cell (M : Nat → Nat → Int) (ys xs s : Nat) (f : Nat → Nat → Int) (k j : Nat) (hj : j < s) : upd (laidTo M ys xs s f k j) (ys + k) (xs + j) (f k j) = laidTo M ys xs s f k (j + 1) := by
  funext y x; unfold laidTo upd
  by_cases e : y = ys + k ∧ x = xs + j
  · rw [if_pos e, if_pos (by omega)]; obtain ⟨rfl, rfl⟩ := e; rw [Nat.add_sub_cancel_left, Nat.add_sub_cancel_left]
  · rw [if_neg e]; dsimp only
    by_cases h : ys ≤ y ∧ xs ≤ x ∧ x < xs + s ∧ (y < ys + k ∨ (y = ys + k ∧ x < xs + j))
    · rw [if_pos h, if_pos (by omega)]
    · rw [if_neg h, if_neg (by omega)]
set_option maxRecDepth 100000 in
set_option maxHeartbeats 2000000 in
theorem posDet_c {w : World} {B R n : Nat} {M : Nat → Nat → Int} (h : BM w B R n M) (xs ys : Nat) (xi yi : Int) (hx : xi = xs) (hy : yi = ys) (hxn : xs + 7 ≤ n) (hyn : ys + 7 ≤ n) (hn : n ≤ 200) :
    Calls Tryz.prog 183 #[.int .i64 xi, .int .i64 yi, ptv B] w fun e w' => e = .returned (.tuple #[]) ∧ BM w' B R n (overlay M ys xs 7 pdp) ∧ Kept (span (R + 1) n) w w' := by
  subst hx; subst hy
  have hxi : (xs : Int) ≤ 200 := by omega
  have hyi : (ys : Int) ≤ 200 := by omega
  go_enter Tryz.func183, Tryz.ntmps183
  go_wp2_with fail
  go_loopw [6] (fun a wr => ∃ k, k ≤ 7 ∧ a = intv k ∧ BM wr B R n (laidTo M ys xs 7 pdp k 0) ∧ Kept (span (R + 1) n) w wr) (fun a _ => 7 - (intOf a).toNat)
  case atStart => exact ⟨0, by omega, rfl, by rw [laidTo_zero]; exact h, Kept.refl _ _⟩
  case round =>
    obtain ⟨k, hk, rfl, hb, hkp⟩ := hrel
    have hk9 : (k : Int) ≤ 7 := by omega
    by_cases hlt : k < 7
    · go_wp2_with fail
      refine (pdpTable_c wr).mono ?_
      rintro e w1 ⟨⟨A, rfl, ht, hA⟩, hk1⟩
      have ho := ht.outer.at (rowOf_get _ hlt)
      have hb1 := hb.kept hk1 (by simp)
      have hkp1 := hkp.trans0 hk1
      have hrow := ht.row k hlt
      have hBs := hb.size
      go_wp2_with fail
      go_loopw [8] (fun a wr => ∃ j, j ≤ 7 ∧ a = intv j ∧ BM wr B R n (laidTo M ys xs 7 pdp k j) ∧ Kept (span (R + 1) n) w wr ∧ Blk wr (A + k) (rowOf 7 fun x => i8v (pdp k x)) 145) (fun a _ => 7 - (intOf a).toNat)
      case atStart => exact ⟨0, by omega, rfl, hb1, hkp1, hrow⟩
      case round =>
        obtain ⟨j, hj, rfl, hbj, hkj, hrj⟩ := hrel
        have hj9 : (j : Int) ≤ 7 := by omega
        by_cases hjt : j < 7
        · have hv := hrj.at (rowOf_get _ hjt)
          go_wp2_with fail
          refine (mset_c hbj (xs + j) (ys + k) _ _ (by omega) (by omega) (by omega) (by omega) (pdp k j)).mono ?_
          rintro e w2 ⟨rfl, hb2, hk2⟩
          have hlt2 := h.lt
          go_wp2_with fail
          go_roundw
          case rel =>
            refine ⟨j + 1, by omega, by go_num, ?_, hkj.then hk2, hk2.blk hrj (by rw [mem_span]; omega)⟩
            rw [← laidTo_cell M ys xs 7 pdp k j hjt]; exact hb2
          case measure => simp [intOf]; omega
        · obtain rfl : j = 7 := by omega
          go_wp2_with fail
          go_roundw
          case rel => exact ⟨k + 1, by omega, by go_num, by rw [← laidTo_row]; exact hbj, hkj⟩
          case measure => simp [intOf]; omega
    · obtain rfl : k = 7 := by omega
      go_wp2_with fail
      go_end0
      exact ⟨rfl, by rw [← laidTo_all]; exact hb, hkp⟩
set_option maxRecDepth 100000 in
set_option maxHeartbeats 2000000 in
theorem posAdj_c {w : World} {B R n : Nat} {M : Nat → Nat → Int} (h : BM w B R n M) (xs ys : Nat) (xi yi : Int) (hx : xi = xs) (hy : yi = ys) (hxn : xs + 5 ≤ n) (hyn : ys + 5 ≤ n) (hn : n ≤ 200) :
    Calls Tryz.prog 188 #[.int .i64 xi, .int .i64 yi, ptv B] w fun e w' => e = .returned (.tuple #[]) ∧ BM w' B R n (overlay M ys xs 5 pap) ∧ Kept (span (R + 1) n) w w' := by
  subst hx; subst hy
  have hxi : (xs : Int) ≤ 200 := by omega
  have hyi : (ys : Int) ≤ 200 := by omega
  go_enter Tryz.func188, Tryz.ntmps188
  go_wp2_with fail
  go_loopw [6] (fun a wr => ∃ k, k ≤ 5 ∧ a = intv k ∧ BM wr B R n (laidTo M ys xs 5 pap k 0) ∧ Kept (span (R + 1) n) w wr) (fun a _ => 5 - (intOf a).toNat)
  case atStart => exact ⟨0, by omega, rfl, by rw [laidTo_zero]; exact h, Kept.refl _ _⟩
  case round =>
    obtain ⟨k, hk, rfl, hb, hkp⟩ := hrel
    have hk9 : (k : Int) ≤ 5 := by omega
    by_cases hlt : k < 5
    · go_wp2_with fail
      refine (papTable_c wr).mono ?_
      rintro e w1 ⟨⟨A, rfl, ht, hA⟩, hk1⟩
      have ho := ht.outer.at (rowOf_get _ hlt)
      have hb1 := hb.kept hk1 (by simp)
      have hkp1 := hkp.trans0 hk1
      have hrow := ht.row k hlt
      have hBs := hb.size
      go_wp2_with fail
      go_loopw [8] (fun a wr => ∃ j, j ≤ 5 ∧ a = intv j ∧ BM wr B R n (laidTo M ys xs 5 pap k j) ∧ Kept (span (R + 1) n) w wr ∧ Blk wr (A + k) (rowOf 5 fun x => i8v (pap k x)) 145) (fun a _ => 5 - (intOf a).toNat)
      case atStart => exact ⟨0, by omega, rfl, hb1, hkp1, hrow⟩
      case round =>
        obtain ⟨j, hj, rfl, hbj, hkj, hrj⟩ := hrel
        have hj9 : (j : Int) ≤ 5 := by omega
        by_cases hjt : j < 5
        · have hv := hrj.at (rowOf_get _ hjt)
          go_wp2_with fail
          refine (mset_c hbj (xs + j) (ys + k) _ _ (by omega) (by omega) (by omega) (by omega) (pap k j)).mono ?_
          rintro e w2 ⟨rfl, hb2, hk2⟩
          have hlt2 := h.lt
          go_wp2_with fail
          go_roundw
          case rel =>
            refine ⟨j + 1, by omega, by go_num, ?_, hkj.then hk2, hk2.blk hrj (by rw [mem_span]; omega)⟩
            rw [← laidTo_cell M ys xs 5 pap k j hjt]; exact hb2
          case measure => simp [intOf]; omega
        · obtain rfl : j = 5 := by omega
          go_wp2_with fail
          go_roundw
          case rel => exact ⟨k + 1, by omega, by go_num, by rw [← laidTo_row]; exact hbj, hkj⟩
          case measure => simp [intOf]; omega
    · obtain rfl : k = 5 := by omega
      go_wp2_with fail
      go_end0
      exact ⟨rfl, by rw [← laidTo_all]; exact hb, hkp⟩
end

section
def hfill (M : Nat → Nat → Int) (ys xs k : Nat) : Nat → Nat → Int := fun y x => if y = ys ∧ xs ≤ x ∧ x < xs + k then 0 else M y x
def vfill (M : Nat → Nat → Int) (ys xs k : Nat) : Nat → Nat → Int := fun y x => if x = xs ∧ ys ≤ y ∧ y < ys + k then 0 else M y x
theorem hfill_zero (M : Nat → Nat → Int) (ys xs : Nat) : hfill M ys xs 0 = M := by funext y x; unfold hfill; rw [if_neg (by omega)]
theorem vfill_zero (M : Nat → Nat → Int) (ys xs : Nat) : vfill M ys xs 0 = M := by funext y x; unfold vfill; rw [if_neg (by omega)]
theorem hfill_succ (M : Nat → Nat → Int) (ys xs k : Nat) : upd (hfill M ys xs k) ys (xs + k) 0 = hfill M ys xs (k + 1) := by
  funext y x; unfold hfill upd
  by_cases e : y = ys ∧ x = xs + k
  · rw [if_pos e, if_pos (by omega)]
  · rw [if_neg e]; dsimp only
    by_cases h : y = ys ∧ xs ≤ x ∧ x < xs + k
    · rw [if_pos h, if_pos (by omega)]
    · rw [if_neg h, if_neg (by omega)]
theorem vfill_succ (M : Nat → Nat → Int) (ys xs k : Nat) : upd (vfill M ys xs k) (ys + k) xs 0 = vfill M ys xs (k + 1) := by
  funext y x; unfold vfill upd
  by_cases e : y = ys + k ∧ x = xs
  · rw [if_pos e, if_pos (by omega)]
  · rw [if_neg e]; dsimp only
    by_cases h : x = xs ∧ ys ≤ y ∧ y < ys + k
    · rw [if_pos h, if_pos (by omega)]
    · rw [if_neg h, if_neg (by omega)]
set_option maxRecDepth 100000 in
set_option maxHeartbeats 2000000 in
theorem hSep_c {w : World} {B R n : Nat} {M : Nat → Nat → Int} (h : BM w B R n M) (xs ys : Nat) (xi yi : Int) (hx : xi = xs) (hy : yi = ys) (hxn : xs + 8 ≤ n) (hyn : ys + 1 ≤ n) (hn : n ≤ 200)
    (he : ∀ k, k < 8 → M ys (xs + k) = -1) :
    Calls Tryz.prog 184 #[.int .i64 xi, .int .i64 yi, ptv B] w fun e w' => e = .returned .nilIface ∧ BM w' B R n (hfill M ys xs 8) ∧ Kept (span (R + 1) n) w w' := by
  subst hx; subst hy
  have hxi : (xs : Int) ≤ 200 := by omega
  have hyi : (ys : Int) ≤ 200 := by omega
  have HE := Lib.hid he
  clear he
  go_enter Tryz.func184, Tryz.ntmps184
  go_wp2_with fail
  go_loopw [7] (fun a wr => ∃ k, k ≤ 8 ∧ a = intv k ∧ BM wr B R n (hfill M ys xs k) ∧ Kept (span (R + 1) n) w wr) (fun a _ => 8 - (intOf a).toNat)
  case atStart => exact ⟨0, by omega, rfl, by rw [hfill_zero]; exact h, Kept.refl _ _⟩
  case round =>
    obtain ⟨k, hk, rfl, hb, hkp⟩ := hrel
    have hk9 : (k : Int) ≤ 8 := by omega
    by_cases hlt : k < 8
    · go_wp2_with fail
      refine (mget_c hb (xs + k) ys _ _ (by omega) (by omega) (by omega) (by omega) (-1) (by have := HE.out k hlt; unfold hfill; rw [if_neg (by omega)]; exact this)).mono ?_
      rintro e w1 ⟨rfl, rfl⟩
      go_wp2_with fail
      refine (isEmpty_c _ _).mono ?_
      rintro e w1 ⟨rfl, rfl⟩
      go_wp2_with fail
      refine (mset_c hb (xs + k) ys _ _ (by omega) (by omega) (by omega) (by omega) 0).mono ?_
      rintro e w2 ⟨rfl, hb2, hk2⟩
      go_wp2_with fail
      go_roundw
      case rel => exact ⟨k + 1, by omega, by go_num, by rw [← hfill_succ]; exact hb2, hkp.then hk2⟩
      case measure => simp [intOf]; omega
    · obtain rfl : k = 8 := by omega
      go_wp2_with fail
      go_ret
      exact ⟨rfl, hb, hkp⟩
set_option maxRecDepth 100000 in
set_option maxHeartbeats 2000000 in
theorem vSep_c {w : World} {B R n : Nat} {M : Nat → Nat → Int} (h : BM w B R n M) (xs ys : Nat) (xi yi : Int) (hx : xi = xs) (hy : yi = ys) (hxn : xs + 1 ≤ n) (hyn : ys + 7 ≤ n) (hn : n ≤ 200)
    (he : ∀ k, k < 7 → M (ys + k) xs = -1) :
    Calls Tryz.prog 185 #[.int .i64 xi, .int .i64 yi, ptv B] w fun e w' => e = .returned .nilIface ∧ BM w' B R n (vfill M ys xs 7) ∧ Kept (span (R + 1) n) w w' := by
  subst hx; subst hy
  have hxi : (xs : Int) ≤ 200 := by omega
  have hyi : (ys : Int) ≤ 200 := by omega
  have HE := Lib.hid he
  clear he
  go_enter Tryz.func185, Tryz.ntmps185
  go_wp2_with fail
  go_loopw [7] (fun a wr => ∃ k, k ≤ 7 ∧ a = intv k ∧ BM wr B R n (vfill M ys xs k) ∧ Kept (span (R + 1) n) w wr) (fun a _ => 7 - (intOf a).toNat)
  case atStart => exact ⟨0, by omega, rfl, by rw [vfill_zero]; exact h, Kept.refl _ _⟩
  case round =>
    obtain ⟨k, hk, rfl, hb, hkp⟩ := hrel
    have hk9 : (k : Int) ≤ 7 := by omega
    by_cases hlt : k < 7
    · go_wp2_with fail
      refine (mget_c hb xs (ys + k) _ _ (by omega) (by omega) (by omega) (by omega) (-1) (by have := HE.out k hlt; unfold vfill; rw [if_neg (by omega)]; exact this)).mono ?_
      rintro e w1 ⟨rfl, rfl⟩
      go_wp2_with fail
      refine (isEmpty_c _ _).mono ?_
      rintro e w1 ⟨rfl, rfl⟩
      go_wp2_with fail
      refine (mset_c hb xs (ys + k) _ _ (by omega) (by omega) (by omega) (by omega) 0).mono ?_
      rintro e w2 ⟨rfl, hb2, hk2⟩
      go_wp2_with fail
      go_roundw
      case rel => exact ⟨k + 1, by omega, by go_num, by rw [← vfill_succ]; exact hb2, hkp.then hk2⟩
      case measure => simp [intOf]; omega
    · obtain rfl : k = 7 := by omega
      go_wp2_with fail
      go_ret
      exact ⟨rfl, hb, hkp⟩
def darkDot (M : Nat → Nat → Int) (n : Nat) : Nat → Nat → Int := upd M (n - 8) 8 1
set_option maxRecDepth 100000 in
theorem darkDot_c {w : World} {B R n : Nat} {M : Nat → Nat → Int} (h : BM w B R n M) (h20 : 20 ≤ n) (hn : n ≤ 200) (v : Int) (hv : M (n - 8) 8 = v) (hv0 : (v == 0) = false) :
    Calls Tryz.prog 148 #[ptv B] w fun e w' => e = .returned .nilIface ∧ BM w' B R n (darkDot M n) ∧ Kept (span (R + 1) n) w w' := by
  have HV := Lib.hid hv; clear hv
  have hni : (n : Int) ≤ 200 := by omega
  have hn8 : (20 : Int) ≤ n := by omega
  go_enter Tryz.func148, Tryz.ntmps148
  go_wp2_with fail
  refine (height_c h).mono ?_
  rintro e w1 ⟨rfl, rfl⟩
  go_wp2_with fail
  refine (mget_c h 8 (n - 8) _ _ (by omega) (by omega) (by omega) (by omega) v HV.out).mono ?_
  rintro e w1 ⟨rfl, rfl⟩
  go_wp2_with fail
  refine (height_c h).mono ?_
  rintro e w1 ⟨rfl, rfl⟩
  go_wp2_with fail
  refine (mset_c h 8 (n - 8) _ _ (by omega) (by omega) (by omega) (by omega) 1).mono ?_
  rintro e w1 ⟨rfl, hb, hk⟩
  go_wp2_with fail
  go_ret
  exact ⟨rfl, hb, hk⟩
end

section
theorem isEmptyB (v : Int) (b : Bool) (hb : (v == -1) = b) (w : World) : Calls Tryz.prog 155 #[i8v v] w fun e w' => e = .returned (.bool b) ∧ w = w' := by
  subst hb; exact isEmpty_c v w
/-- One step of the timing lines: the cells of the row and of the column 6 at i, where they are empty. -/
def timeStep1 (M : Nat → Nat → Int) (i : Nat) : Nat → Nat → Int := if M 6 i = -1 then upd M 6 i (((i + 1) % 2 : Nat) : Int) else M
def timeStep2 (M : Nat → Nat → Int) (i : Nat) : Nat → Nat → Int := if M i 6 = -1 then upd M i 6 (((i + 1) % 2 : Nat) : Int) else M
def timeTo (M : Nat → Nat → Int) : Nat → Nat → Nat → Int
  | 0 => M
  | k + 1 => timeStep2 (timeStep1 (timeTo M k) (8 + k)) (8 + k)
theorem ite_BM {w : World} {B R n : Nat} {c : Prop} [Decidable c] {M M' : Nat → Nat → Int} : (c → BM w B R n M) → (¬ c → BM w B R n M') → BM w B R n (if c then M else M') := by
  intro h1 h2; split
  · exact h1 ‹_›
  · exact h2 ‹_›
set_option maxRecDepth 100000 in
set_option maxHeartbeats 2000000 in
theorem timing_c {w : World} {B R n : Nat} {M : Nat → Nat → Int} (h : BM w B R n M) (h20 : 20 ≤ n) (hn : n ≤ 200) :
    Calls Tryz.prog 150 #[ptv B] w fun e w' => e = .returned (.tuple #[]) ∧ BM w' B R n (timeTo M (n - 16)) ∧ Kept (span (R + 1) n) w w' := by
  have hni : (n : Int) ≤ 200 := by omega
  have hn8 : (20 : Int) ≤ n := by omega
  go_enter Tryz.func150, Tryz.ntmps150
  go_wp2_with fail
  go_loopw [2] (fun a wr => ∃ i k, i = 8 + k ∧ k ≤ n - 16 ∧ a = intv i ∧ BM wr B R n (timeTo M k) ∧ Kept (span (R + 1) n) w wr) (fun a _ => n - (intOf a).toNat)
  case atStart => exact ⟨8, 0, by omega, by omega, rfl, h, Kept.refl _ _⟩
  case round =>
    obtain ⟨i, k, hi, hk, rfl, hb, hkp⟩ := hrel
    have HI := Lib.hid hi; clear hi
    have hi9 : (i : Int) ≤ 200 := by have := HI.out; omega
    by_cases hlt : k < n - 16
    · have hin : (i : Int) < (n : Int) - 8 := by have := HI.out; omega
      obtain ⟨b, hb9⟩ : ∃ b : Int, b = (((i + 1) % 2 : Nat) : Int) := ⟨_, rfl⟩
      have HB := Lib.hid hb9; clear hb9
      have hwr : ((i : Int) + 1) % 2 = b := by rw [HB.out]; omega
      have h1 : timeStep1 (timeTo M k) i = timeStep1 (timeTo M k) (8 + k) := by rw [HI.out]
      have h2 : timeTo M (k + 1) = timeStep2 (timeStep1 (timeTo M k) i) i := by rw [HI.out]; rfl
      have H2 := Lib.hid h2; clear h1 h2
      go_wp2_with fail
      refine (width_c hb).mono ?_
      rintro e w1 ⟨rfl, rfl⟩
      go_wp2_with fail
      refine (mget_c hb i 6 _ _ rfl rfl (by omega) (by omega) _ rfl).mono ?_
      rintro e w1 ⟨rfl, rfl⟩
      go_wp2_with fail
      by_cases e1 : timeTo M k 6 i = -1
      · have hE1 : timeStep1 (timeTo M k) i = upd (timeTo M k) 6 i b := by unfold timeStep1; rw [if_pos e1, HB.out]
        have HE1 := Lib.hid hE1
        refine (isEmptyB _ true (by rw [e1]; rfl) _).mono ?_
        clear e1 hE1
        rintro e w1 ⟨rfl, rfl⟩
        go_wp2_with fail
        refine (mset_c hb i 6 _ _ rfl rfl (by omega) (by omega) b).mono ?_
        rintro e w2 ⟨rfl, hb2, hk2⟩
        have hb3 : BM w2 B R n (timeStep1 (timeTo M k) i) := by rw [HE1.out]; exact hb2
        clear hb2 HE1
        go_wp2_with fail
        refine (mget_c hb3 6 i _ _ rfl rfl (by omega) (by omega) _ rfl).mono ?_
        rintro e w3 ⟨rfl, rfl⟩
        go_wp2_with fail
        by_cases e2 : timeStep1 (timeTo M k) i i 6 = -1
        · have hE2 : timeTo M (k + 1) = upd (timeStep1 (timeTo M k) i) i 6 b := by rw [H2.out]; unfold timeStep2; rw [if_pos e2, HB.out]
          have HE2 := Lib.hid hE2
          refine (isEmptyB _ true (by rw [e2]; rfl) _).mono ?_
          clear e2 hE2
          rintro e w4 ⟨rfl, rfl⟩
          go_wp2_with fail
          refine (mset_c hb3 6 i _ _ rfl rfl (by omega) (by omega) b).mono ?_
          rintro e w4 ⟨rfl, hb4, hk4⟩
          go_wp2_with fail
          go_roundw
          case rel => exact ⟨i + 1, k + 1, by have := HI.out; omega, by omega, by go_num, by rw [HE2.out]; exact hb4, (hkp.then hk2).then hk4⟩
          case measure => have := HI.out; simp [intOf]; omega
        · have hE2 : timeTo M (k + 1) = timeStep1 (timeTo M k) i := by rw [H2.out]; unfold timeStep2; rw [if_neg e2]
          have HE2 := Lib.hid hE2
          refine (isEmptyB _ false (by simpa using e2) _).mono ?_
          clear e2 hE2
          rintro e w4 ⟨rfl, rfl⟩
          go_wp2_with fail
          go_roundw
          case rel => exact ⟨i + 1, k + 1, by have := HI.out; omega, by omega, by go_num, by rw [HE2.out]; exact hb3, hkp.then hk2⟩
          case measure => have := HI.out; simp [intOf]; omega
      · have hE1 : timeStep1 (timeTo M k) i = timeTo M k := by unfold timeStep1; rw [if_neg e1]
        have hb3 : BM wr B R n (timeStep1 (timeTo M k) i) := by rw [hE1]; exact hb
        refine (isEmptyB _ false (by simpa using e1) _).mono ?_
        clear e1 hE1
        rintro e w2 ⟨rfl, rfl⟩
        have hk2 := Kept.refl (span (R + 1) n) wr
        go_wp2_with fail
        refine (mget_c hb3 6 i _ _ rfl rfl (by omega) (by omega) _ rfl).mono ?_
        rintro e w3 ⟨rfl, rfl⟩
        go_wp2_with fail
        by_cases e2 : timeStep1 (timeTo M k) i i 6 = -1
        · have hE2 : timeTo M (k + 1) = upd (timeStep1 (timeTo M k) i) i 6 b := by rw [H2.out]; unfold timeStep2; rw [if_pos e2, HB.out]
          have HE2 := Lib.hid hE2
          refine (isEmptyB _ true (by rw [e2]; rfl) _).mono ?_
          clear e2 hE2
          rintro e w4 ⟨rfl, rfl⟩
          go_wp2_with fail
          refine (mset_c hb3 6 i _ _ rfl rfl (by omega) (by omega) b).mono ?_
          rintro e w4 ⟨rfl, hb4, hk4⟩
          go_wp2_with fail
          go_roundw
          case rel => exact ⟨i + 1, k + 1, by have := HI.out; omega, by omega, by go_num, by rw [HE2.out]; exact hb4, (hkp.then hk2).then hk4⟩
          case measure => have := HI.out; simp [intOf]; omega
        · have hE2 : timeTo M (k + 1) = timeStep1 (timeTo M k) i := by rw [H2.out]; unfold timeStep2; rw [if_neg e2]
          have HE2 := Lib.hid hE2
          refine (isEmptyB _ false (by simpa using e2) _).mono ?_
          clear e2 hE2
          rintro e w4 ⟨rfl, rfl⟩
          go_wp2_with fail
          go_roundw
          case rel => exact ⟨i + 1, k + 1, by have := HI.out; omega, by omega, by go_num, by rw [HE2.out]; exact hb3, hkp.then hk2⟩
          case measure => have := HI.out; simp [intOf]; omega
    · have hin : ¬ (i : Int) < (n : Int) - 8 := by have := HI.out; omega
      go_wp2_with fail
      refine (width_c hb).mono ?_
      rintro e w1 ⟨rfl, rfl⟩
      go_wp2_with fail
      go_end0
      exact ⟨rfl, by rw [show n - 16 = k from by omega]; exact hb, hkp⟩
end
end Go.Proofs.YtplpafbkalkchaaGreatDoor
