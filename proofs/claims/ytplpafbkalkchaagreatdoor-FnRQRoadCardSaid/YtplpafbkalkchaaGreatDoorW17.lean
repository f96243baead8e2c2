/- Walks over ByteMatrix: a square of cells. Walks over ByteMatrix: made, cleared. Walks: the penalties of a mask: each is a number, and not a great one. -/
import Derived.Test.YtplpafbkalkchaaGreatDoorW01
namespace Go.Proofs.YtplpafbkalkchaaGreatDoor
open Go Go.RowKit Go.Proofs
set_option linter.all false

section
abbrev intv (n : Nat) : Value := .int .i64 (n : Int)
/-- A list of n values by a function. -/
def rowOf (n : Nat) (f : Nat → Value) : List Value := (List.range n).map f
theorem rowOf_len (n : Nat) (f : Nat → Value) : (rowOf n f).length = n := by simp [rowOf]
theorem rowOf_get {n : Nat} (f : Nat → Value) {i : Nat} (h : i < n) : (rowOf n f)[i]? = some (f i) := by simp [rowOf, h]
theorem rowOf_set (n : Nat) (f : Nat → Value) (i : Nat) (v : Value) : (rowOf n f).set i v = rowOf n (fun j => if j = i then v else f j) := by
  apply List.ext_getElem?
  intro j
  rw [List.getElem?_set]
  unfold rowOf
  simp only [List.length_map, List.length_range, List.getElem?_map]
  by_cases h : j < n
  · by_cases e : i = j
    · subst e; simp [h]
    · rw [if_neg e]; simp [h, Ne.symm e]
  · rw [List.getElem?_eq_none (by simp; omega)]
    by_cases e : i = j
    · subst e; simp [h]
    · simp [e]
theorem rowOf_congr {n : Nat} {f g : Nat → Value} (h : ∀ i, i < n → f i = g i) : rowOf n f = rowOf n g := by
  unfold rowOf; exact List.map_congr_left (fun i hi => h i (by simpa using hi))
theorem rowOf_const (n : Nat) (v : Value) : List.replicate n v = rowOf n (fun _ => v) := by
  unfold rowOf; apply List.ext_getElem? ; intro i; simp [List.getElem?_replicate]; split <;> simp_all
abbrev i8v (x : Int) : Value := .int .i8 x
/-- The blocks from lo on, n of them. -/
abbrev span (lo n : Nat) : List Nat := List.range' lo n
theorem mem_span {lo n x : Nat} : x ∈ span lo n ↔ lo ≤ x ∧ x < lo + n := List.mem_range'_1
structure BM (w : World) (B R n : Nat) (M : Nat → Nat → Int) : Prop where
  self : Blk w B [slv R n n, intv n, intv n] 223
  rows : Blk w R (rowOf n fun y => slv (R + 1 + y) n n) 221
  row : ∀ y, y < n → Blk w (R + 1 + y) (rowOf n fun x => i8v (M y x)) 145
  lt : R + n < B
def upd (M : Nat → Nat → Int) (y x : Nat) (v : Int) : Nat → Nat → Int := fun y' x' => if y' = y ∧ x' = x then v else M y' x'
theorem BM.congr {w : World} {B R n : Nat} {M M' : Nat → Nat → Int} (h : BM w B R n M) (e : ∀ y x, y < n → x < n → M y x = M' y x) : BM w B R n M' :=
  ⟨h.self, h.rows, fun y hy => by rw [← rowOf_congr (f := fun x => i8v (M y x)) (fun x hx => by rw [e y x hy hx])]; exact h.row y hy, h.lt⟩
theorem BM.kept {w w' : World} {B R n : Nat} {M : Nat → Nat → Int} {S : List Nat} (h : BM w B R n M) (hk : Kept S w w') (hS : ∀ x ∈ S, x < R ∨ B < x) : BM w' B R n M := by
  have hn : ∀ x, R ≤ x → x ≤ B → x ∉ S := fun x h1 h2 hx => by have := hS x hx; omega
  have := h.lt
  exact ⟨hk.blk h.self (hn _ (by omega) (by omega)), hk.blk h.rows (hn _ (by omega) (by omega)), fun y hy => hk.blk (h.row y hy) (hn _ (by omega) (by omega)), h.lt⟩
theorem BM.drew {w : World} {B R n : Nat} {M : Nat → Nat → Int} (h : BM w B R n M) : BM w.drew B R n M := ⟨h.self, h.rows, h.row, h.lt⟩
theorem BM.set {w : World} {B R n : Nat} {M : Nat → Nat → Int} (h : BM w B R n M) (y x : Nat) (hy : y < n) (v : Int) : BM (w.setCell ⟨R + 1 + y, x, none⟩ (i8v v)) B R n (upd M y x v) := by
  have := h.lt
  refine ⟨h.self.set_other (by simp; omega) _, h.rows.set_other (by simp; omega) _, fun y' hy' => ?_, h.lt⟩
  by_cases e : y' = y
  · subst e
    have h1 := (h.row y' hy).set x (i8v v)
    rw [rowOf_set] at h1
    rw [rowOf_congr (g := fun j => if j = x then i8v v else i8v (M y' j))]
    · exact h1
    · intro i _; unfold upd; by_cases e : i = x <;> simp [e]
  · have h1 := (h.row y' hy').set_other (a := ⟨R + 1 + y, x, none⟩) (by simp; omega) (i8v v)
    rw [rowOf_congr (g := fun j => i8v (M y' j))]
    · exact h1
    · intro i _; unfold upd; rw [if_neg (by intro h; exact e h.1)]
theorem BM.size {w : World} {B R n : Nat} {M : Nat → Nat → Int} (h : BM w B R n M) : B < w.heap.size := h.self.lt
/-- A store into a row of it. -/
theorem Kept.row {w w' : World} {R n y x : Nat} {v : Value} (hk : Kept (span (R + 1) n) w w') (hy : y < n) : Kept (span (R + 1) n) w (w'.setCell ⟨R + 1 + y, x, none⟩ v) :=
  hk.setCell (.inl (mem_span.2 (by simp; omega))) v
theorem width_c {w : World} {B R n : Nat} {M : Nat → Nat → Int} (h : BM w B R n M) : Calls Tryz.prog 71 #[ptv B] w fun e w' => e = .returned (intv n) ∧ w = w' := by
  have h1 := h.self.at (i := 1) rfl
  clear h
  go_enter Tryz.func71, Tryz.ntmps71
  go_wp2
  go_ret
  exact ⟨rfl, rfl⟩
theorem height_c {w : World} {B R n : Nat} {M : Nat → Nat → Int} (h : BM w B R n M) : Calls Tryz.prog 72 #[ptv B] w fun e w' => e = .returned (intv n) ∧ w = w' := by
  have h1 := h.self.at (i := 2) rfl
  clear h
  go_enter Tryz.func72, Tryz.ntmps72
  go_wp2
  go_ret
  exact ⟨rfl, rfl⟩
theorem array_c {w : World} {B R n : Nat} {M : Nat → Nat → Int} (h : BM w B R n M) : Calls Tryz.prog 179 #[ptv B] w fun e w' => e = .returned (slv R n n) ∧ w = w' := by
  have h1 := h.self.at (i := 0) rfl
  clear h
  go_enter Tryz.func179, Tryz.ntmps179
  go_wp2
  go_ret
  exact ⟨rfl, rfl⟩
theorem mget_c {w : World} {B R n : Nat} {M : Nat → Nat → Int} (h : BM w B R n M) (x y : Nat) (xi yi : Int) (hx : xi = x) (hy : yi = y) (hxn : x < n) (hyn : y < n) (v : Int) (hv : M y x = v) :
    Calls Tryz.prog 74 #[ptv B, .int .i64 xi, .int .i64 yi] w fun e w' => e = .returned (i8v v) ∧ w = w' := by
  subst hx; subst hy; subst hv
  have h0 := h.self.at (i := 0) rfl
  have h1 := h.rows.at (rowOf_get _ hyn)
  have h2 := (h.row y hyn).at (rowOf_get _ hxn)
  clear h
  go_enter Tryz.func74, Tryz.ntmps74
  go_wp2
  go_ret
  exact ⟨rfl, rfl⟩
theorem mset_c {w : World} {B R n : Nat} {M : Nat → Nat → Int} (h : BM w B R n M) (x y : Nat) (xi yi : Int) (hx : xi = x) (hy : yi = y) (hxn : x < n) (hyn : y < n) (v : Int) :
    Calls Tryz.prog 186 #[ptv B, .int .i64 xi, .int .i64 yi, i8v v] w fun e w' => e = .returned (.tuple #[]) ∧ BM w' B R n (upd M y x v) ∧ Kept (span (R + 1) n) w w' := by
  subst hx; subst hy
  have h0 := h.self.at (i := 0) rfl
  have h1 := h.rows.at (rowOf_get _ hyn)
  have h2 := (h.row y hyn).at (rowOf_get _ hxn)
  have h3 := (h.row y hyn).free x
  have HF := Lib.hid (And.intro (h.set y x hyn v) ((Kept.refl (span (R + 1) n) w).row (x := x) (v := i8v v) hyn))
  clear h
  go_enter Tryz.func186, Tryz.ntmps186
  go_wp2
  go_end0
  exact ⟨rfl, HF.out⟩
theorem msetBool_c {w : World} {B R n : Nat} {M : Nat → Nat → Int} (h : BM w B R n M) (x y : Nat) (xi yi : Int) (hx : xi = x) (hy : yi = y) (hxn : x < n) (hyn : y < n) (b : Bool) :
    Calls Tryz.prog 153 #[ptv B, .int .i64 xi, .int .i64 yi, .bool b] w fun e w' => e = .returned (.tuple #[]) ∧ BM w' B R n (upd M y x (if b then 1 else 0)) ∧ Kept (span (R + 1) n) w w' := by
  subst hx; subst hy
  have h0 := h.self.at (i := 0) rfl
  have h1 := h.rows.at (rowOf_get _ hyn)
  have h2 := (h.row y hyn).at (rowOf_get _ hxn)
  have h3 := (h.row y hyn).free x
  have HF := Lib.hid (And.intro (h.set y x hyn (if b then 1 else 0)) ((Kept.refl (span (R + 1) n) w).row (x := x) (v := i8v (if b then 1 else 0)) hyn))
  clear h
  cases b <;>
  · go_enter Tryz.func153, Tryz.ntmps153
    go_wp2
    go_end0
    exact ⟨rfl, HF.out⟩
theorem isEmpty_c (v : Int) (w : World) : Calls Tryz.prog 155 #[i8v v] w fun e w' => e = .returned (.bool (v == -1)) ∧ w = w' := by
  go_enter Tryz.func155, Tryz.ntmps155
  go_wp2
  go_ret
  exact ⟨rfl, rfl⟩
end

section
set_option maxRecDepth 100000 in
set_option maxHeartbeats 1000000 in
theorem newMatrix_c (w : World) (n : Nat) (hn : n ≤ 200) :
    Calls Tryz.prog 64 #[intv n, intv n] w fun e w' => (∃ R, e = .returned (ptv (R + 1 + n)) ∧ w.heap.size ≤ R ∧ BM w' (R + 1 + n) R n (fun _ _ => 0)) ∧ Kept [] w w' := by
  have hmk := mk_rows_i8 (n : Int) (n : Int) n n rfl rfl (by omega) (by omega)
  have hmr := mk_i8s (n : Int) (n : Int) n n rfl rfl (by omega) (by omega)
  have hb0 := Blk.new w (List.replicate n (Value.slice none 0 0)) 221
  rw [show (List.replicate n (Value.slice none 0 0)).toArray = Array.replicate n (Value.slice none 0 0) from by simp] at hb0
  have hk0 : Kept [] w (w.alloc (.cells (Array.replicate n (Value.slice none 0 0)) 221)) := (Kept.refl _ _).alloc _
  obtain ⟨R, hR⟩ : ∃ R, w.heap.size = R := ⟨_, rfl⟩
  have hs0 : (w.alloc (.cells (Array.replicate n (Value.slice none 0 0)) 221)).heap.size = R + 1 := by simp [hR]
  rw [hR] at hb0
  have HR := Lib.hid hR
  go_enter Tryz.func64, Tryz.ntmps64
  go_wp2_with fail
  generalize (w.alloc (.cells (Array.replicate n (Value.slice none 0 0)) 221)) = W at hb0 hk0 hs0 ⊢
  clear hR
  go_loopw [6] (fun a wr => ∃ i, i ≤ n ∧ a = intv i ∧ wr.heap.size = R + 1 + i ∧ Blk wr R (rowOf n fun y => if y < i then slv (R + 1 + y) n n else .slice none 0 0) 221 ∧
      (∀ y, y < i → Blk wr (R + 1 + y) (rowOf n fun _ => i8v 0) 145) ∧ Kept [R] W wr) (fun a _ => n - (intOf a).toNat)
  case atStart => exact ⟨0, by omega, rfl, hs0, by simpa [rowOf_const] using hb0, by intro y hy; omega, Kept.refl _ _⟩
  case round =>
    obtain ⟨i, hi, rfl, hs, hb, hrow, hk⟩ := hrel
    by_cases hlt : i < n
    · have hfr := hb.free i
      have hc0 := hb.at (rowOf_get _ hlt)
      simp only [Nat.lt_irrefl, if_false] at hc0
      have hne : R ≠ R + 1 + i := by omega
      have HB := Lib.hid hb
      have hbn := Blk.new wr (List.replicate n (i8v 0)) 145
      rw [show (List.replicate n (i8v 0)).toArray = Array.replicate n (i8v 0) from by simp, hs] at hbn
      have hRlt : R < R + 1 + i := by omega
      clear hb
      go_wp2_with fail
      go_roundw
      case rel =>
        refine ⟨i + 1, by omega, by go_num, by simp [hs]; omega, ?_, ?_, ?_⟩
        · have h2 := (HB.out.set i (slv (R + 1 + i) n n)).alloc (.cells (Array.replicate n (i8v 0)) 145)
          rw [rowOf_set] at h2
          rw [rowOf_congr (g := fun j => if j = i then slv (R + 1 + i) n n else if j < i then slv (R + 1 + j) n n else .slice none 0 0)]
          · exact h2
          · intro j _; by_cases e : j = i
            · subst e; simp
            · simp [e, show (j < i + 1) = (j < i) from by simp; omega]
        · intro y hy
          rcases Nat.lt_or_ge y i with h | h
          · exact ((hrow y h).set_other (by simp; omega) _).alloc _
          · obtain rfl : y = i := by omega
            have h3 := Blk.new (wr.setCell ⟨R, y, none⟩ (slv (R + 1 + y) n n)) (rowOf n fun _ => i8v 0) 145
            rw [World.size_setCell, hs] at h3
            rw [show (Array.replicate n (i8v 0)) = (rowOf n fun _ => i8v 0).toArray from by rw [← rowOf_const]; simp]
            exact h3
        · exact (hk.setCell (by simp) _).alloc _
      case measure => simp [intOf]; omega
    · obtain rfl : i = n := by omega
      go_wp2_with fail
      go_ret
      refine ⟨⟨R, rfl, by have := HR.out; omega, ?_, ?_, fun y hy => (hrow y hy).alloc _, by omega⟩, (hk0.trans hk ?_).alloc _⟩
      · have h3 := Blk.new wr [slv R i i, intv i, intv i] 223
        rw [hs] at h3; exact h3
      · rw [rowOf_congr (g := fun y => if y < i then slv (R + 1 + y) i i else .slice none 0 0)]
        · exact hb.alloc _
        · intro y hy; simp [hy]
      · intro x hx hl; simp at hx; have := HR.out; omega
set_option maxRecDepth 100000 in
set_option maxHeartbeats 1000000 in
theorem mclear_c {w : World} {B R n : Nat} {M : Nat → Nat → Int} (h : BM w B R n M) (hn : n ≤ 200) (v : Int) :
    Calls Tryz.prog 146 #[ptv B, i8v v] w fun e w' => e = .returned (.tuple #[]) ∧ BM w' B R n (fun _ _ => v) ∧ Kept (span (R + 1) n) w w' := by
  have h0 := h.self.at (i := 0) rfl
  go_enter Tryz.func146, Tryz.ntmps146
  go_wp2_with fail
  go_loopw [11] (fun a wr => ∃ i, i ≤ n ∧ a = intv i ∧ BM wr B R n (fun y x => if y < i then v else M y x) ∧ Kept (span (R + 1) n) w wr) (fun a _ => n - (intOf a).toNat)
  case atStart => exact ⟨0, by omega, rfl, h.congr (by intro y x _ _; simp), Kept.refl _ _⟩
  case round =>
    obtain ⟨i, hi, rfl, hb, hk⟩ := hrel
    by_cases hlt : i < n
    · have h0 := hb.self.at (i := 0) rfl
      have h1 := hb.rows.at (rowOf_get _ hlt)
      go_wp2_with fail
      obtain ⟨wo, hwo⟩ : ∃ wo : World, wo = wr := ⟨_, rfl⟩
      go_loopw [22] (fun a wr => ∃ j, j ≤ n ∧ a = intv j ∧ BM wr B R n (fun y x => if y < i ∨ (y = i ∧ x < j) then v else M y x) ∧ Kept (span (R + 1) n) w wr) (fun a _ => n - (intOf a).toNat)
      case atStart => exact ⟨0, by omega, rfl, hb.congr (by intro y x _ _; simp), hk⟩
      case round =>
        obtain ⟨j, hj, rfl, hbj, hkj⟩ := hrel
        have h0 := hbj.self.at (i := 0) rfl
        have h1 := hbj.rows.at (rowOf_get _ hlt)
        by_cases hjt : j < n
        · have h2 := (hbj.row i hlt).at (rowOf_get _ hjt)
          have h3 := (hbj.row i hlt).free j
          simp only [Nat.lt_irrefl, and_false, or_false, if_false] at h2
          go_wp2_with fail
          go_roundw
          case rel =>
            refine ⟨j + 1, by omega, by go_num, (hbj.set i j hlt v).congr ?_, hkj.row hlt⟩
            intro y x _ _
            unfold upd
            by_cases e1 : y < i
            · simp [e1]
              try omega
            · by_cases e2 : y = i
              · subst e2; simp; by_cases e3 : x = j
                · simp [e3]
                · simp [e3, show (x < j + 1) = (x < j) from by simp; omega]
              · simp [e1, e2]
          case measure => simp [intOf]; omega
        · obtain rfl : j = n := by omega
          go_wp2_with fail
          go_roundw
          case rel =>
            refine ⟨i + 1, by omega, by go_num, hbj.congr ?_, hkj⟩
            intro y x _ hx
            by_cases e1 : y < i
            · simp [e1]
              try omega
            · simp [e1, hx, show (y < i + 1) = (y = i) from by simp; omega]
          case measure => simp [intOf]; omega
    · obtain rfl : i = n := by omega
      go_wp2_with fail
      go_end0
      exact ⟨rfl, hb.congr (by intro y x hy _; simp [hy]), hk⟩
end

section
set_option maxRecDepth 100000 in
set_option maxHeartbeats 4000000 in
theorem pen1i_c {w : World} {B R n : Nat} {M : Nat → Nat → Int} (h : BM w B R n M) (hn : n ≤ 200) (b : Bool) :
    Calls Tryz.prog 178 #[ptv B, .bool b] w fun e w' => (∃ p : Nat, p ≤ 40000000 ∧ e = .returned (intv p)) ∧ w = w' := by
  have hni : (n : Int) ≤ 200 := by omega
  have H := Lib.hid h
  cases b <;>
  · go_enter Tryz.func178, Tryz.ntmps178
    go_wp2_with fail
    refine (width_c h).mono ?_
    rintro e w1 ⟨rfl, rfl⟩
    go_wp2_with fail
    refine (height_c h).mono ?_
    rintro e w1 ⟨rfl, rfl⟩
    go_wp2_with fail
    refine (array_c h).mono ?_
    rintro e w1 ⟨rfl, rfl⟩
    clear h
    go_wp2_with fail
    go_loopw [5, 9] (fun a c wr => ∃ p i : Nat, i ≤ n ∧ p ≤ 200000 * i ∧ a = intv p ∧ c = intv i ∧ w = wr) (fun _ a _ => n - (intOf a).toNat)
    case atStart => exact ⟨0, 0, by omega, by omega, rfl, rfl, rfl⟩
    case round =>
      obtain ⟨p, i, hi, hp, rfl, rfl, rfl⟩ := hrel
      have hi9 : (i : Int) ≤ 200 := by omega
      by_cases hlt : i < n
      · have hlti : (i : Int) < n := by omega
        have hr1 := H.out.rows.at (rowOf_get _ hlt)
        go_wp2_with fail
        go_loopw [5, 10, 11, 12] (fun a c d f wr => ∃ (p2 q j : Nat) (v : Int), j ≤ n ∧ q ≤ j ∧ p2 ≤ 200000 * i + 400 * j ∧ a = intv p2 ∧ c = intv q ∧ d = .int .i64 v ∧ f = intv j ∧ w = wr) (fun _ _ _ a _ => n - (intOf a).toNat)
        case atStart => exact ⟨p, 0, 0, -1, by omega, by omega, by omega, rfl, rfl, rfl, rfl, rfl⟩
        case round =>
          obtain ⟨p2, q, j, v, hj, hq, hp2, rfl, rfl, rfl, rfl, rfl⟩ := hrel
          have hj9 : (j : Int) ≤ 200 := by omega
          have hp9 : (p2 : Int) ≤ 40100000 := by omega
          have hq9 : (q : Int) ≤ 200 := by omega
          by_cases hjt : j < n
          · have hr2 := H.out.rows.at (rowOf_get _ hjt)
            have c1 := (H.out.row i hlt).at (rowOf_get _ hjt)
            have c2 := (H.out.row j hjt).at (rowOf_get _ hlt)
            obtain ⟨x, hx⟩ : ∃ x, M i j = x := ⟨_, rfl⟩
            obtain ⟨y, hy⟩ : ∃ y, M j i = y := ⟨_, rfl⟩
            rw [hx] at c1
            rw [hy] at c2
            clear hx hy
            go_wp2_with fail
            all_goals
              go_roundw
              case rel =>
                first
                | exact ⟨p2 + (q - 2), 1, j + 1, _, by omega, by omega, by omega, by congr 1; omega, rfl, rfl, by congr 1, trivial⟩
                | exact ⟨p2, 1, j + 1, _, by omega, by omega, by omega, rfl, rfl, rfl, by congr 1, trivial⟩
                | exact ⟨p2, q + 1, j + 1, _, by omega, by omega, by omega, rfl, by congr 1, rfl, by congr 1, trivial⟩
              case measure => simp [intOf]; omega
          · obtain rfl : j = n := by omega
            by_cases h5 : 5 ≤ q
            · go_wp2_with fail
              go_roundw
              case rel => exact ⟨p2 + (q - 2), i + 1, by omega, by omega, by go_num, by go_num, by trivial⟩
              case measure => simp [intOf]; omega
            · go_wp2_with fail
              go_roundw
              case rel => exact ⟨p2, i + 1, by omega, by omega, by go_num, by go_num, by trivial⟩
              case measure => simp [intOf]; omega
      · obtain rfl : i = n := by omega
        go_wp2_with fail
        go_ret
        exact ⟨⟨p, by omega, rfl⟩, rfl⟩
theorem pen1_c {w : World} {B R n : Nat} {M : Nat → Nat → Int} (h : BM w B R n M) (hn : n ≤ 200) :
    Calls Tryz.prog 142 #[ptv B] w fun e w' => (∃ p : Nat, p ≤ 80000000 ∧ e = .returned (intv p)) ∧ w = w' := by
  have H := Lib.hid h; clear h
  go_enter Tryz.func142, Tryz.ntmps142
  go_wp2_with fail
  refine (pen1i_c H.out hn true).mono ?_
  rintro e w1 ⟨⟨p, hp, rfl⟩, rfl⟩
  go_wp2_with fail
  refine (pen1i_c H.out hn false).mono ?_
  rintro e w1 ⟨⟨q, hq, rfl⟩, rfl⟩
  have hpi : (p : Int) ≤ 40000000 := by omega
  have hqi : (q : Int) ≤ 40000000 := by omega
  go_wp2_with fail
  go_ret
  exact ⟨⟨p + q, by omega, by congr 1⟩, rfl⟩
set_option maxRecDepth 100000 in
set_option maxHeartbeats 4000000 in
theorem pen4_c {w : World} {B R n : Nat} {M : Nat → Nat → Int} (h : BM w B R n M) (hn : n ≤ 200) (hn1 : 1 ≤ n) :
    Calls Tryz.prog 145 #[ptv B] w fun e w' => (∃ p : Nat, p ≤ 10000000 ∧ e = .returned (intv p)) ∧ w = w' := by
  have hni : (n : Int) ≤ 200 := by omega
  have H := Lib.hid h; clear h
  go_enter Tryz.func145, Tryz.ntmps145
  go_wp2_with fail
  refine (array_c H.out).mono ?_
  rintro e w1 ⟨rfl, rfl⟩
  go_wp2_with fail
  refine (width_c H.out).mono ?_
  rintro e w1 ⟨rfl, rfl⟩
  go_wp2_with fail
  refine (height_c H.out).mono ?_
  rintro e w1 ⟨rfl, rfl⟩
  go_wp2_with fail
  go_loopw [3, 7] (fun a c wr => ∃ p i : Nat, i ≤ n ∧ p ≤ 200 * i ∧ a = intv p ∧ c = intv i ∧ w = wr) (fun _ a _ => n - (intOf a).toNat)
  case atStart => exact ⟨0, 0, by omega, by omega, rfl, rfl, rfl⟩
  case round =>
    obtain ⟨p, i, hi, hp, rfl, rfl, rfl⟩ := hrel
    have hi9 : (i : Int) ≤ 200 := by omega
    have hp9 : (p : Int) ≤ 40000 := by omega
    by_cases hlt : i < n
    · have hlti : (i : Int) < n := by omega
      have hr1 := H.out.rows.at (rowOf_get _ hlt)
      go_wp2_with fail
      go_loopw [3, 9] (fun a f wr => ∃ (p2 j : Nat), j ≤ n ∧ p2 ≤ 200 * i + j ∧ a = intv p2 ∧ f = intv j ∧ w = wr) (fun _ a _ => n - (intOf a).toNat)
      case atStart => exact ⟨p, 0, by omega, by omega, rfl, rfl, rfl⟩
      case round =>
        obtain ⟨p2, j, hj, hp2, rfl, rfl, rfl⟩ := hrel
        have hj9 : (j : Int) ≤ 200 := by omega
        have hp29 : (p2 : Int) ≤ 40200 := by omega
        by_cases hjt : j < n
        · have hjti : (j : Int) < n := by omega
          have c1 := (H.out.row i hlt).at (rowOf_get _ hjt)
          obtain ⟨x, hx⟩ : ∃ x, M i j = x := ⟨_, rfl⟩
          rw [hx] at c1
          clear hx
          go_wp2_with fail
          all_goals
            go_roundw
            case rel =>
              first
              | exact ⟨p2, j + 1, by omega, by omega, rfl, by congr 1, by trivial⟩
              | exact ⟨p2 + 1, j + 1, by omega, by omega, by congr 1, by congr 1, by trivial⟩
            case measure => simp [intOf]; omega
        · obtain rfl : j = n := by omega
          go_wp2_with fail
          go_roundw
          case rel => exact ⟨p2, i + 1, by omega, by omega, by go_num, by go_num, by trivial⟩
          case measure => simp [intOf]; omega
    · obtain rfl : i = n := by omega
      obtain ⟨s, hs⟩ : ∃ s, i * i = s := ⟨_, rfl⟩
      have hs1 : s ≤ 40000 := by rw [← hs]; exact Nat.mul_le_mul hn hn
      have hs0 : 1 ≤ s := by rw [← hs]; exact Nat.mul_le_mul hn1 hn1
      have hsi : (i : Int) * (i : Int) = (s : Int) := by rw [← hs, Int.natCast_mul]
      go_wp2_with fail
      refine (height_c H.out).mono ?_
      rintro e w1 ⟨rfl, rfl⟩
      go_wp2_with fail
      refine (width_c H.out).mono ?_
      rintro e w1 ⟨rfl, rfl⟩
      have hquo : ∀ d : Nat, d ≤ 80000 → ∃ q : Nat, q ≤ 800000 ∧ (d : Int) * 10 / (s : Int) = (q : Int) := by
        intro d hd
        refine ⟨d * 10 / s, Nat.le_trans (Nat.div_le_self _ _) (by omega), ?_⟩
        rw [Int.natCast_ediv, Int.natCast_mul]; rfl
      by_cases hs2 : s ≤ p * 2
      · obtain ⟨d, hd⟩ : ∃ d : Nat, (p : Int) * 2 - (s : Int) = (d : Int) := ⟨p * 2 - s, by omega⟩
        obtain ⟨q, hq, hq2⟩ := hquo d (by omega)
        have hd9 : (d : Int) ≤ 80000 := by omega
        have hq9 : (q : Int) ≤ 800000 := by omega
        clear hquo hs
        go_wp2_with fail
        go_ret
        exact ⟨⟨q * 10, by omega, by congr 1⟩, rfl⟩
      · obtain ⟨d, hd⟩ : ∃ d : Nat, (p : Int) * 2 - (s : Int) = -(d : Int) := ⟨s - p * 2, by omega⟩
        obtain ⟨q, hq, hq2⟩ := hquo d (by omega)
        have hd9 : (d : Int) ≤ 80000 := by omega
        have hd0 : -(d : Int) < 0 := by omega
        have hq9 : (q : Int) ≤ 800000 := by omega
        clear hquo hs
        go_wp2_with fail
        go_ret
        exact ⟨⟨q * 10, by omega, by congr 1⟩, rfl⟩
end
end Go.Proofs.YtplpafbkalkchaaGreatDoor
