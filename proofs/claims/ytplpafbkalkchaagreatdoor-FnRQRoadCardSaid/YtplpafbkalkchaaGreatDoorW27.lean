/- Plain laws: what is laid in zigzag is read in zigzag. No program in sight. Plain laws: the cells of a symbol that no data bit takes. No program in sight. Plain laws: what the fixed cells of a symbol say: the bits of its format and version, and its corner. No program in sight. -/
import Derived.Test.YtplpafbkalkchaaGreatDoorW24
import Derived.Test.YtplpafbkalkchaaGreatDoorW26
import Derived.Test.YtplpafbkalkchaaGreatDoorW12
namespace Go.Proofs.YtplpafbkalkchaaGreatDoor
open Go Go.RowKit Go.Proofs
set_option linter.all false

section
/-- The cells that are still empty, in their order. -/
def gaps (M : Nat → Nat → Int) (L : List (Nat × Nat)) : List (Nat × Nat) := L.filter fun p => decide (M p.2 p.1 = -1)
theorem bit01_ne (b : Bool) : bit01 b ≠ -1 := by cases b <;> decide
theorem bit01_one (b : Bool) : decide (bit01 b = 1) = b := by cases b <;> decide
theorem fold_other (bs : List Bool) (m : Nat) : ∀ (L : List (Nat × Nat)) (st : Lay) (q : Nat × Nat), q ∉ L → (L.foldl (cell bs m) st).2 q.2 q.1 = st.2 q.2 q.1
  | [], _, _, _ => rfl
  | p :: L, st, q, h => by
    have h1 : q ≠ p := fun e => h (e ▸ List.mem_cons_self)
    have h2 : q ∉ L := fun e => h (List.mem_cons_of_mem _ e)
    rw [List.foldl_cons, fold_other bs m L _ q h2]
    unfold cell
    split
    · show upd st.2 p.2 p.1 _ q.2 q.1 = _
      unfold upd
      rw [if_neg (fun e => h1 (Prod.ext e.2 e.1))]
    · rfl
theorem fold_full (bs : List Bool) (m : Nat) : ∀ (L : List (Nat × Nat)) (st : Lay) (y x : Nat), st.2 y x ≠ -1 → (L.foldl (cell bs m) st).2 y x = st.2 y x
  | [], _, _, _, _ => rfl
  | p :: L, st, y, x, h => by
    have e : (cell bs m st p).2 y x = st.2 y x := by
      unfold cell
      split
      · rename_i hp
        show upd st.2 p.2 p.1 _ y x = _
        unfold upd
        rw [if_neg (fun e => h (by rw [e.1, e.2]; exact hp))]
      · rfl
    rw [List.foldl_cons, fold_full bs m L _ y x (by rw [e]; exact h), e]
theorem fold_read (bs : List Bool) (m : Nat) : ∀ (L : List (Nat × Nat)) (st : Lay), L.Nodup → st.1 ≤ bs.length →
    (gaps st.2 L).map (fun p => decide ((L.foldl (cell bs m) st).2 p.2 p.1 = 1) != maskBit m p.1 p.2) = (List.range (gaps st.2 L).length).map (fun i => bs.getD (st.1 + i) false) ∧
    (L.foldl (cell bs m) st).1 = min bs.length (st.1 + (gaps st.2 L).length)
  | [], st, _, h => by simp [gaps]; omega
  | p :: L, st, hn, h => by
    rw [List.nodup_cons] at hn
    by_cases e : st.2 p.2 p.1 = -1
    · have hg : gaps st.2 (p :: L) = p :: gaps st.2 L := by unfold gaps; rw [List.filter_cons]; simp [e]
      obtain ⟨c', hc'⟩ : ∃ c', (if st.1 < bs.length then st.1 + 1 else st.1) = c' := ⟨_, rfl⟩
      have hst : cell bs m st p = (c', upd st.2 p.2 p.1 (bit01 (bs.getD st.1 false != maskBit m p.1 p.2))) := by unfold cell; rw [if_pos e, hc']
      have hle : c' ≤ bs.length := by rw [← hc']; split <;> omega
      have hgs : gaps (cell bs m st p).2 L = gaps st.2 L := by
        rw [hst]; unfold gaps
        apply List.filter_congr
        intro q hq
        have hne : ¬ (q.2 = p.2 ∧ q.1 = p.1) := fun e2 => hn.1 (by have : q = p := Prod.ext e2.2 e2.1; rw [← this]; exact hq)
        show decide (upd st.2 p.2 p.1 _ q.2 q.1 = -1) = _
        unfold upd; rw [if_neg hne]
      have ih := fold_read bs m L (cell bs m st p) hn.2 (by rw [hst]; exact hle)
      rw [hgs] at ih
      have hhead : ((p :: L).foldl (cell bs m) st).2 p.2 p.1 = bit01 (bs.getD st.1 false != maskBit m p.1 p.2) := by
        rw [List.foldl_cons, fold_other bs m L _ p hn.1, hst]
        show upd st.2 p.2 p.1 _ p.2 p.1 = _
        unfold upd; rw [if_pos ⟨rfl, rfl⟩]
      have hidx : ∀ i, bs.getD ((cell bs m st p).1 + i) false = bs.getD (st.1 + (i + 1)) false := by
        intro i
        rw [hst]
        show bs.getD (c' + i) false = _
        by_cases hl : st.1 < bs.length
        · rw [if_pos hl] at hc'; rw [← hc']; congr 1; omega
        · rw [List.getD_eq_getElem?_getD, List.getD_eq_getElem?_getD, List.getElem?_eq_none (by rw [if_neg hl] at hc'; omega), List.getElem?_eq_none (by omega)]
      constructor
      · rw [hg, List.map_cons, List.length_cons, List.range_succ_eq_map, List.map_cons, List.map_map, hhead, bit01_one]
        congr 1
        · simp
        · have h1 := ih.1
          rw [List.foldl_cons]
          rw [h1]
          apply List.map_congr_left
          intro i _
          exact hidx i
      · rw [List.foldl_cons, ih.2, hst, hg, List.length_cons]
        show min bs.length (c' + _) = _
        rw [← hc']; split <;> omega
    · have hg : gaps st.2 (p :: L) = gaps st.2 L := by unfold gaps; rw [List.filter_cons]; simp [e]
      have hst : cell bs m st p = st := by unfold cell; rw [if_neg e]
      have ih := fold_read bs m L st hn.2 h
      rw [hg, List.foldl_cons, hst]
      exact ih
theorem range_getD (bs : List Bool) (N : Nat) (h : bs.length ≤ N) : (List.range N).map (fun i => bs.getD (0 + i) false) = bs ++ List.replicate (N - bs.length) false := by
  apply List.ext_getElem
  · simp; omega
  · intro i h1 h2
    rw [List.getElem_map, List.getElem_range, Nat.zero_add, List.getD_eq_getElem?_getD, List.getElem_append]
    split
    · rename_i h3; rw [List.getElem?_eq_getElem h3]; rfl
    · rename_i h3; rw [List.getElem?_eq_none (by omega)]; simp
theorem zig_bd (n C : Nat) (hC : n = 2 * C + 1) (h20 : 20 ≤ n) : ∀ p ∈ zig n C, p.1 < n ∧ p.2 < n := by
  intro p hp
  unfold zig at hp
  obtain ⟨c, hc, hp⟩ := List.mem_flatMap.1 hp
  rw [List.mem_range] at hc
  unfold rowsOfCol at hp
  obtain ⟨t, ht, hp⟩ := List.mem_flatMap.1 hp
  rw [List.mem_range] at ht
  have h1 : rowY n c t < n := by unfold rowY; split <;> omega
  have h2 : colX n c < n := by unfold colX; split <;> omega
  simp only [List.mem_cons, List.not_mem_nil, or_false] at hp
  rcases hp with rfl | rfl
  · exact ⟨h2, h1⟩
  · exact ⟨by show colX n c - 1 < n; omega, h1⟩
theorem zig_nodup (n C : Nat) (hC : n = 2 * C + 1) (h20 : 20 ≤ n) : (zig n C).Nodup := by
  unfold zig List.Nodup
  rw [List.pairwise_flatMap]
  constructor
  · intro c hc
    rw [List.mem_range] at hc
    have hx : 2 ≤ colX n c ∨ colX n c = 1 := by unfold colX; split <;> omega
    unfold rowsOfCol
    rw [List.pairwise_flatMap]
    constructor
    · intro t ht
      simp only [List.pairwise_cons, List.mem_cons, List.not_mem_nil, or_false, forall_eq, false_implies, implies_true, and_true, List.Pairwise.nil]
      intro e
      have := congrArg Prod.fst e
      simp at this
      omega
    · refine (List.pairwise_lt_range).imp_of_mem ?_
      intro a b ha hb hab x hx y hy e
      rw [List.mem_range] at ha hb
      have hr : x.2 = rowY n c a ∧ y.2 = rowY n c b := by
        simp only [List.mem_cons, List.not_mem_nil, or_false] at hx hy
        constructor
        · rcases hx with rfl | rfl <;> rfl
        · rcases hy with rfl | rfl <;> rfl
      rw [e] at hr
      have : rowY n c a = rowY n c b := by rw [← hr.1, ← hr.2]
      unfold rowY at this
      split at this <;> omega
  · refine (List.pairwise_lt_range).imp_of_mem ?_
    intro a b ha hb hab x hx y hy e
    rw [List.mem_range] at ha hb
    have hr : (x.1 = colX n a ∨ x.1 = colX n a - 1) ∧ (y.1 = colX n b ∨ y.1 = colX n b - 1) := by
      unfold rowsOfCol at hx hy
      obtain ⟨t, _, hx⟩ := List.mem_flatMap.1 hx
      obtain ⟨u, _, hy⟩ := List.mem_flatMap.1 hy
      simp only [List.mem_cons, List.not_mem_nil, or_false] at hx hy
      constructor
      · rcases hx with rfl | rfl
        · exact .inl rfl
        · exact .inr rfl
      · rcases hy with rfl | rfl
        · exact .inl rfl
        · exact .inr rfl
    rw [e] at hr
    obtain ⟨h1, h2⟩ := hr
    unfold colX at h1 h2
    split at h1 <;> split at h2 <;> omega
theorem laid_full (bs : List Bool) (m n : Nat) (M : Nat → Nat → Int) (C y x : Nat) (h : M y x ≠ -1) : (laid bs m n M C 0).2 y x = M y x := fold_full bs m _ (0, M) y x h
/-- What is laid is read; behind it stand empty bits. -/
theorem laid_read (bs : List Bool) (m n : Nat) (M : Nat → Nat → Int) (C : Nat) (hC : n = 2 * C + 1) (h20 : 20 ≤ n) (hfit : bs.length ≤ (gaps M (zig n C)).length) :
    (laid bs m n M C 0).1 = bs.length ∧
    (gaps M (zig n C)).map (fun p => decide ((laid bs m n M C 0).2 p.2 p.1 = 1) != maskBit m p.1 p.2) = bs ++ List.replicate ((gaps M (zig n C)).length - bs.length) false := by
  have e : zig n C ++ rowsOfCol n C 0 = zig n C := by simp [rowsOfCol]
  have h := fold_read bs m (zig n C) (0, M) (zig_nodup n C hC h20) (Nat.zero_le _)
  unfold laid
  rw [e]
  exact ⟨by rw [h.2]; show min bs.length (0 + (gaps M (zig n C)).length) = _; omega, by rw [h.1]; exact range_getD bs _ hfit⟩
end

section
abbrev tick (i : Nat) : Int := (((i + 1) % 2 : Nat) : Int)
theorem step1_at (N : Nat → Nat → Int) (i y x : Nat) : timeStep1 N i y x = if y = 6 ∧ x = i ∧ N y x = -1 then tick i else N y x := by
  unfold timeStep1
  by_cases h : y = 6 ∧ x = i
  · obtain ⟨rfl, rfl⟩ := h
    by_cases e : N 6 x = -1
    · rw [if_pos e, if_pos ⟨rfl, rfl, e⟩]; unfold upd; rw [if_pos ⟨rfl, rfl⟩]
    · rw [if_neg e, if_neg (fun h => e h.2.2)]
  · have e : ¬ (y = 6 ∧ x = i ∧ N y x = -1) := fun k => h ⟨k.1, k.2.1⟩
    rw [if_neg e]
    split
    · unfold upd; rw [if_neg h]
    · rfl
theorem step2_at (N : Nat → Nat → Int) (i y x : Nat) : timeStep2 N i y x = if x = 6 ∧ y = i ∧ N y x = -1 then tick i else N y x := by
  unfold timeStep2
  by_cases h : y = i ∧ x = 6
  · obtain ⟨rfl, rfl⟩ := h
    by_cases e : N y 6 = -1
    · rw [if_pos e, if_pos ⟨rfl, rfl, e⟩]; unfold upd; rw [if_pos ⟨rfl, rfl⟩]
    · rw [if_neg e, if_neg (fun h => e h.2.2)]
  · have e : ¬ (x = 6 ∧ y = i ∧ N y x = -1) := fun k => h ⟨k.2.1, k.1⟩
    rw [if_neg e]
    split
    · unfold upd; rw [if_neg h]
    · rfl
def timeClosed (M : Nat → Nat → Int) (k : Nat) : Nat → Nat → Int := fun y x =>
  if M y x = -1 ∧ ((y = 6 ∧ 8 ≤ x ∧ x < 8 + k) ∨ (x = 6 ∧ 8 ≤ y ∧ y < 8 + k)) then tick (if y = 6 then x else y) else M y x
theorem timeTo_eq (M : Nat → Nat → Int) : ∀ k, timeTo M k = timeClosed M k
  | 0 => by
    funext y x; unfold timeTo timeClosed; rw [if_neg]; rintro ⟨_, h⟩; omega
  | k + 1 => by
    have ih := timeTo_eq M k
    funext y x
    show timeStep2 (timeStep1 (timeTo M k) (8 + k)) (8 + k) y x = _
    rw [step2_at, step1_at, ih]
    unfold timeClosed
    by_cases h1 : y = 6 ∧ x = 8 + k
    · obtain ⟨rfl, rfl⟩ := h1
      have a : ¬ (8 + k = 6) := by omega
      simp only [a, false_and, if_false, true_and, Nat.lt_irrefl, and_false, or_false, if_true]
      by_cases e : M 6 (8 + k) = -1 <;> simp [e] <;> omega
    · by_cases h2 : x = 6 ∧ y = 8 + k
      · obtain ⟨rfl, rfl⟩ := h2
        have a : ¬ (8 + k = 6) := by omega
        simp only [a, false_and, if_false, true_and, Nat.lt_irrefl, and_false, or_false, false_or, if_true]
        by_cases e : M (8 + k) 6 = -1 <;> simp [e] <;> omega
      · have b1 : ¬ (x = 6 ∧ y = 8 + k ∧ (if y = 6 ∧ x = 8 + k ∧ (if M y x = -1 ∧ ((y = 6 ∧ 8 ≤ x ∧ x < 8 + k) ∨ (x = 6 ∧ 8 ≤ y ∧ y < 8 + k)) then tick (if y = 6 then x else y) else M y x) = -1 then tick (8 + k) else (if M y x = -1 ∧ ((y = 6 ∧ 8 ≤ x ∧ x < 8 + k) ∨ (x = 6 ∧ 8 ≤ y ∧ y < 8 + k)) then tick (if y = 6 then x else y) else M y x)) = -1) := fun h => h2 ⟨h.1, h.2.1⟩
        have b2 : ¬ (y = 6 ∧ x = 8 + k ∧ (if M y x = -1 ∧ ((y = 6 ∧ 8 ≤ x ∧ x < 8 + k) ∨ (x = 6 ∧ 8 ≤ y ∧ y < 8 + k)) then tick (if y = 6 then x else y) else M y x) = -1) := fun h => h1 ⟨h.1, h.2.1⟩
        rw [if_neg b1, if_neg b2]
        have e : ((y = 6 ∧ 8 ≤ x ∧ x < 8 + k) ∨ (x = 6 ∧ 8 ≤ y ∧ y < 8 + k)) = ((y = 6 ∧ 8 ≤ x ∧ x < 8 + (k + 1)) ∨ (x = 6 ∧ 8 ≤ y ∧ y < 8 + (k + 1))) := by
          apply propext; omega
        simp only [e]
/-- The alignment patterns of a version, one by one. -/
def adjClosed (D : Nat → Nat → Int) : Nat → Nat → Nat → Int
  | 0 => D
  | 6 => overlay (overlay (overlay (overlay (overlay (overlay D 4 20 5 pap) 20 4 5 pap) 20 20 5 pap) 20 36 5 pap) 36 20 5 pap) 36 36 5 pap
  | k + 1 => overlay D (4 * k + 16) (4 * k + 16) 5 pap
theorem adj_eq0 : adjAll (darkDot (corners 21) 21) 0 7 = adjClosed (darkDot (corners 21) 21) 0 := by kernel_rfl
theorem adj_eq1 : adjAll (darkDot (corners 25) 25) 1 7 = adjClosed (darkDot (corners 25) 25) 1 := by kernel_rfl
theorem adj_eq2 : adjAll (darkDot (corners 29) 29) 2 7 = adjClosed (darkDot (corners 29) 29) 2 := by kernel_rfl
theorem adj_eq3 : adjAll (darkDot (corners 33) 33) 3 7 = adjClosed (darkDot (corners 33) 33) 3 := by kernel_rfl
theorem adj_eq4 : adjAll (darkDot (corners 37) 37) 4 7 = adjClosed (darkDot (corners 37) 37) 4 := by kernel_rfl
theorem adj_eq5 : adjAll (darkDot (corners 41) 41) 5 7 = adjClosed (darkDot (corners 41) 41) 5 := by kernel_rfl
theorem adj_eq6 : adjAll (darkDot (corners 45) 45) 6 7 = adjClosed (darkDot (corners 45) 45) 6 := by kernel_rfl
theorem adj_eq (K : Nat) (h : K < 7) : adjAll (darkDot (corners (21 + 4 * K)) (21 + 4 * K)) K 7 = adjClosed (darkDot (corners (21 + 4 * K)) (21 + 4 * K)) K := by
  match K, h with
  | 0, _ => exact adj_eq0
  | 1, _ => exact adj_eq1
  | 2, _ => exact adj_eq2
  | 3, _ => exact adj_eq3
  | 4, _ => exact adj_eq4
  | 5, _ => exact adj_eq5
  | 6, _ => exact adj_eq6
def still (K : Nat) : Nat → Nat → Int := timeClosed (adjClosed (darkDot (corners (21 + 4 * K)) (21 + 4 * K)) K) (5 + 4 * K)
def cl (K : Nat) (tb : List Bool) : Nat → Nat → Int := withVersion (typeTo (still K) (21 + 4 * K) tb 15) (21 + 4 * K) (K + 1)
theorem fixed_eq (K l m : Nat) (h : K < 7) : fixed (21 + 4 * K) K l m = cl K (typeBits (l * 8 + m)) := by
  unfold fixed cl basic still
  rw [timeTo_eq, adj_eq K h, show 21 + 4 * K - 16 = 5 + 4 * K from by omega]
/-- The decoder's pattern of functions. -/
def patA (n : Nat) : Nat → Nat → Bool := reg (reg (reg (fun _ _ => false) 0 9 0 9) 0 9 (n - 8) n) (n - 8) n 0 9
def patB (f : Nat → Nat → Bool) : Nat → Nat → Nat → Bool
  | 0 => f
  | 6 => reg (reg (reg (reg (reg (reg f 4 9 20 25) 20 25 4 9) 20 25 20 25) 20 25 36 41) 36 41 20 25) 36 41 36 41
  | k + 1 => reg f (4 * k + 16) (4 * k + 21) (4 * k + 16) (4 * k + 21)
def patC (n : Nat) (f : Nat → Nat → Bool) : Nat → Nat → Bool := reg (reg f 9 (n - 8) 6 7) 6 7 9 (n - 8)
def patOf (K : Nat) : Nat → Nat → Bool :=
  if K = 6 then reg (reg (patC 45 (patB (patA 45) 6)) 0 6 34 37) 34 37 0 6 else patC (21 + 4 * K) (patB (patA (21 + 4 * K)) K)
def zeros15 : List Bool := List.replicate 15 false
def patOk (K : Nat) : Bool := (List.range (21 + 4 * K)).all fun y => (List.range (21 + 4 * K)).all fun x => (cl K zeros15 y x == -1) == !(patOf K y x)
theorem patOk0 : patOk 0 = true := by kernel_rfl
theorem patOk1 : patOk 1 = true := by kernel_rfl
theorem patOk2 : patOk 2 = true := by kernel_rfl
theorem patOk3 : patOk 3 = true := by kernel_rfl
theorem patOk4 : patOk 4 = true := by kernel_rfl
theorem patOk5 : patOk 5 = true := by kernel_rfl
theorem patOk6 : patOk 6 = true := by kernel_rfl
theorem upd_neg {M N : Nat → Nat → Int} {a b : Nat} {v u : Int} (hv : v ≠ -1) (hu : u ≠ -1) (h : ∀ y x, M y x = -1 ↔ N y x = -1) (y x : Nat) : upd M a b v y x = -1 ↔ upd N a b u y x = -1 := by
  unfold upd; split
  · exact ⟨fun e => absurd e hv, fun e => absurd e hu⟩
  · exact h y x
theorem typeTo_neg {M N : Nat → Nat → Int} (n : Nat) (bs cs : List Bool) (h : ∀ y x, M y x = -1 ↔ N y x = -1) : ∀ k y x, typeTo M n bs k y x = -1 ↔ typeTo N n cs k y x = -1
  | 0 => h
  | k + 1 => fun y x => upd_neg (bit01_ne _) (bit01_ne _) (fun y x => upd_neg (bit01_ne _) (bit01_ne _) (typeTo_neg n bs cs h k) y x) y x
theorem verTo_neg {M N : Nat → Nat → Int} (n : Nat) (bs cs : List Bool) (h : ∀ y x, M y x = -1 ↔ N y x = -1) : ∀ k y x, verTo M n bs k y x = -1 ↔ verTo N n cs k y x = -1
  | 0 => h
  | k + 1 => fun y x => upd_neg (bit01_ne _) (bit01_ne _) (fun y x => upd_neg (bit01_ne _) (bit01_ne _) (verTo_neg n bs cs h k) y x) y x
theorem cl_neg (K : Nat) (bs cs : List Bool) (y x : Nat) : cl K bs y x = -1 ↔ cl K cs y x = -1 := by
  unfold cl withVersion
  split
  · exact typeTo_neg _ bs cs (fun _ _ => Iff.rfl) 15 y x
  · exact verTo_neg _ _ _ (fun y x => typeTo_neg _ bs cs (fun _ _ => Iff.rfl) 15 y x) 18 y x
theorem patOk_all (K : Nat) (h : K < 7) : patOk K = true := by
  match K, h with
  | 0, _ => exact patOk0
  | 1, _ => exact patOk1
  | 2, _ => exact patOk2
  | 3, _ => exact patOk3
  | 4, _ => exact patOk4
  | 5, _ => exact patOk5
  | 6, _ => exact patOk6
/-- The cells that are left for data are those outside the pattern of functions. -/
theorem fixed_free (K l m : Nat) (h : K < 7) (y x : Nat) (hy : y < 21 + 4 * K) (hx : x < 21 + 4 * K) : decide (fixed (21 + 4 * K) K l m y x = -1) = !(patOf K y x) := by
  rw [fixed_eq K l m h]
  have h1 := patOk_all K h
  unfold patOk at h1
  rw [List.all_eq_true] at h1
  have h2 := h1 y (List.mem_range.2 hy)
  rw [List.all_eq_true] at h2
  have h3 := h2 x (List.mem_range.2 hx)
  rw [beq_iff_eq] at h3
  rw [← h3, Bool.eq_iff_iff, decide_eq_true_iff, beq_iff_eq]
  exact cl_neg K _ _ y x
def free (K : Nat) : List (Nat × Nat) := (zig (21 + 4 * K) (10 + 2 * K)).filter fun p => !(patOf K p.2 p.1)
theorem gaps_free (K l m : Nat) (h : K < 7) : gaps (fixed (21 + 4 * K) K l m) (zig (21 + 4 * K) (10 + 2 * K)) = free K := by
  unfold gaps free
  apply List.filter_congr
  intro p hp
  have hb := zig_bd (21 + 4 * K) (10 + 2 * K) (by omega) (by omega) p hp
  exact fixed_free K l m h p.2 p.1 hb.2 hb.1
def spare (K : Nat) : Nat := if K = 0 ∨ K = 6 then 0 else 7
def freeOk (K : Nat) : Bool := (free K).length == 8 * words (K + 1) + spare K
theorem freeOk0 : freeOk 0 = true := by kernel_rfl
theorem freeOk1 : freeOk 1 = true := by kernel_rfl
theorem freeOk2 : freeOk 2 = true := by kernel_rfl
theorem freeOk3 : freeOk 3 = true := by kernel_rfl
theorem freeOk4 : freeOk 4 = true := by kernel_rfl
theorem freeOk5 : freeOk 5 = true := by kernel_rfl
theorem freeOk6 : freeOk 6 = true := by kernel_rfl
theorem free_len (K : Nat) (h : K < 7) : (free K).length = 8 * words (K + 1) + spare K := by
  have : freeOk K = true := by
    match K, h with
    | 0, _ => exact freeOk0
    | 1, _ => exact freeOk1
    | 2, _ => exact freeOk2
    | 3, _ => exact freeOk3
    | 4, _ => exact freeOk4
    | 5, _ => exact freeOk5
    | 6, _ => exact freeOk6
  exact beq_iff_eq.1 this
/-- A symbol takes all bits of its words. -/
theorem hall_all (k l : Nat) (h : k < 7) (bs : List Bool) (hb : bs.length = 8 * words (k + 1)) (x : Nat) : (laid bs x (21 + 4 * k) (fixed (21 + 4 * k) k l x) (10 + 2 * k) 0).1 = bs.length :=
  (laid_read bs x (21 + 4 * k) (fixed (21 + 4 * k) k l x) (10 + 2 * k) (by omega) (by omega) (by rw [gaps_free k l x h, free_len k h, hb]; omega)).1
/-- The bits of a symbol, read where data stand and turned back by the mask. -/
theorem read_all (k l : Nat) (h : k < 7) (bs : List Bool) (hb : bs.length = 8 * words (k + 1)) (x : Nat) :
    (free k).map (fun p => decide ((laid bs x (21 + 4 * k) (fixed (21 + 4 * k) k l x) (10 + 2 * k) 0).2 p.2 p.1 = 1) != maskBit x p.1 p.2) = bs ++ List.replicate (spare k) false := by
  have h1 := (laid_read bs x (21 + 4 * k) (fixed (21 + 4 * k) k l x) (10 + 2 * k) (by omega) (by omega) (by rw [gaps_free k l x h, free_len k h, hb]; omega)).2
  rw [gaps_free k l x h, free_len k h, hb, show 8 * words (k + 1) + spare k - 8 * words (k + 1) = spare k from by omega] at h1
  exact h1
end

section
abbrev fy2 (n i : Nat) : Nat := if i < 8 then 8 else n - 15 + i
abbrev fx2 (n i : Nat) : Nat := if i < 8 then n - 1 - i else 8
def seen1 (K : Nat) (tb : List Bool) : List Int := (List.range 15).map fun i => cl K tb (tcy i) (tcx i)
def seen2 (K : Nat) (tb : List Bool) : List Int := (List.range 15).map fun i => cl K tb (fy2 (21 + 4 * K) i) (fx2 (21 + 4 * K) i)
def wants (tb : List Bool) : List Int := (List.range 15).map fun i => bit01 (tb.getD (14 - i) false)
theorem seen_0 (tb : List Bool) : seen1 0 tb = wants tb ∧ seen2 0 tb = wants tb := ⟨by kernel_rfl, by kernel_rfl⟩
theorem seen_1 (tb : List Bool) : seen1 1 tb = wants tb ∧ seen2 1 tb = wants tb := ⟨by kernel_rfl, by kernel_rfl⟩
theorem seen_2 (tb : List Bool) : seen1 2 tb = wants tb ∧ seen2 2 tb = wants tb := ⟨by kernel_rfl, by kernel_rfl⟩
theorem seen_3 (tb : List Bool) : seen1 3 tb = wants tb ∧ seen2 3 tb = wants tb := ⟨by kernel_rfl, by kernel_rfl⟩
theorem seen_4 (tb : List Bool) : seen1 4 tb = wants tb ∧ seen2 4 tb = wants tb := ⟨by kernel_rfl, by kernel_rfl⟩
theorem seen_5 (tb : List Bool) : seen1 5 tb = wants tb ∧ seen2 5 tb = wants tb := ⟨by kernel_rfl, by kernel_rfl⟩
theorem seen_6 (tb : List Bool) : seen1 6 tb = wants tb ∧ seen2 6 tb = wants tb := ⟨by kernel_rfl, by kernel_rfl⟩
theorem seen_all (K : Nat) (h : K < 7) (tb : List Bool) : seen1 K tb = wants tb ∧ seen2 K tb = wants tb := by
  match K, h with
  | 0, _ => exact seen_0 tb
  | 1, _ => exact seen_1 tb
  | 2, _ => exact seen_2 tb
  | 3, _ => exact seen_3 tb
  | 4, _ => exact seen_4 tb
  | 5, _ => exact seen_5 tb
  | 6, _ => exact seen_6 tb
theorem map_at {f g : Nat → Int} {n : Nat} (h : (List.range n).map f = (List.range n).map g) (i : Nat) (hi : i < n) : f i = g i := by
  have := congrArg (fun l => l[i]?) h
  simp only [List.getElem?_map, List.getElem?_range hi, Option.map_some] at this
  exact Option.some.inj this
/-- The matrix of a symbol. -/
abbrev mat (k l x : Nat) (bs : List Bool) : Nat → Nat → Int := (laid bs x (21 + 4 * k) (fixed (21 + 4 * k) k l x) (10 + 2 * k) 0).2
theorem mat_fixed (k l x : Nat) (h : k < 7) (bs : List Bool) (y c : Nat) {v : Int} (hv : cl k (typeBits (l * 8 + x)) y c = v) (hn : v ≠ -1) : mat k l x bs y c = v := by
  have e := fixed_eq k l x h
  unfold mat
  rw [laid_full bs x (21 + 4 * k) _ (10 + 2 * k) y c (by rw [e, hv]; exact hn), e, hv]
/-- The two copies of the format's bits. -/
theorem mat_type (k l x : Nat) (h : k < 7) (bs : List Bool) (i : Nat) (hi : i < 15) :
    decide (mat k l x bs (tcy i) (tcx i) = 1) = (typeBits (l * 8 + x)).getD (14 - i) false ∧
    decide (mat k l x bs (fy2 (21 + 4 * k) i) (fx2 (21 + 4 * k) i) = 1) = (typeBits (l * 8 + x)).getD (14 - i) false := by
  have hs := seen_all k h (typeBits (l * 8 + x))
  have h1 : cl k (typeBits (l * 8 + x)) (tcy i) (tcx i) = bit01 ((typeBits (l * 8 + x)).getD (14 - i) false) := map_at (f := fun i => cl k (typeBits (l * 8 + x)) (tcy i) (tcx i)) hs.1 i hi
  have h2 : cl k (typeBits (l * 8 + x)) (fy2 (21 + 4 * k) i) (fx2 (21 + 4 * k) i) = bit01 ((typeBits (l * 8 + x)).getD (14 - i) false) := map_at (f := fun i => cl k (typeBits (l * 8 + x)) (fy2 (21 + 4 * k) i) (fx2 (21 + 4 * k) i)) hs.2 i hi
  rw [mat_fixed k l x h bs _ _ h1 (bit01_ne _), mat_fixed k l x h bs _ _ h2 (bit01_ne _), bit01_one]
  exact ⟨rfl, rfl⟩
def seenV (tb : List Bool) : List Int := (List.range 18).map fun i => cl 6 tb (i / 3) (34 + i % 3)
theorem seenV_eq (tb : List Bool) : seenV tb = (List.range 18).map fun i => bit01 (versionBits7.getD (17 - i) false) := by kernel_rfl
/-- The bits of version 7. -/
theorem mat_version (l x : Nat) (bs : List Bool) (i : Nat) (hi : i < 18) : decide (mat 6 l x bs (i / 3) (34 + i % 3) = 1) = versionBits7.getD (17 - i) false := by
  have h1 : cl 6 (typeBits (l * 8 + x)) (i / 3) (34 + i % 3) = bit01 (versionBits7.getD (17 - i) false) := map_at (f := fun i => cl 6 (typeBits (l * 8 + x)) (i / 3) (34 + i % 3)) (seenV_eq (typeBits (l * 8 + x))) i hi
  rw [mat_fixed 6 l x (by omega) bs _ _ h1 (bit01_ne _), bit01_one]
/-- Corner and diagonal. -/
def seenC (K : Nat) (tb : List Bool) : List Int := ((List.range 8).map fun i => cl K tb i i) ++ [cl K tb (20 + 4 * K) 0, cl K tb (20 + 4 * K) 6]
def cornerL : List Int := [1, 0, 1, 1, 1, 0, 1, 0, 1, 1]
theorem seenC_0 (tb : List Bool) : seenC 0 tb = cornerL := by kernel_rfl
theorem seenC_1 (tb : List Bool) : seenC 1 tb = cornerL := by kernel_rfl
theorem seenC_2 (tb : List Bool) : seenC 2 tb = cornerL := by kernel_rfl
theorem seenC_3 (tb : List Bool) : seenC 3 tb = cornerL := by kernel_rfl
theorem seenC_4 (tb : List Bool) : seenC 4 tb = cornerL := by kernel_rfl
theorem seenC_5 (tb : List Bool) : seenC 5 tb = cornerL := by kernel_rfl
theorem seenC_6 (tb : List Bool) : seenC 6 tb = cornerL := by kernel_rfl
theorem seenC_all (K : Nat) (h : K < 7) (tb : List Bool) : seenC K tb = cornerL := by
  match K, h with
  | 0, _ => exact seenC_0 tb
  | 1, _ => exact seenC_1 tb
  | 2, _ => exact seenC_2 tb
  | 3, _ => exact seenC_3 tb
  | 4, _ => exact seenC_4 tb
  | 5, _ => exact seenC_5 tb
  | 6, _ => exact seenC_6 tb
/-- Module i of the diagonal, for i < 8: dark, light, dark, dark, dark, light, dark, light. -/
def diag (i : Nat) : Int := cornerL.getD i 0
theorem mat_diag (k l x : Nat) (h : k < 7) (bs : List Bool) (i : Nat) (hi : i < 8) : mat k l x bs i i = diag i := by
  have hs := seenC_all k h (typeBits (l * 8 + x))
  have h1 : cl k (typeBits (l * 8 + x)) i i = diag i := by
    have := congrArg (fun l => l[i]?) hs
    simp only [seenC] at this
    rw [List.getElem?_append_left (by simpa using hi), List.getElem?_map, List.getElem?_range hi, Option.map_some] at this
    unfold diag
    rw [List.getD_eq_getElem?_getD, ← this]; rfl
  refine mat_fixed k l x h bs _ _ h1 ?_
  have : ∀ i, i < 8 → diag i ≠ -1 := by decide
  exact this i hi
theorem mat_foot (k l x : Nat) (h : k < 7) (bs : List Bool) : mat k l x bs (20 + 4 * k) 0 = 1 ∧ mat k l x bs (20 + 4 * k) 6 = 1 := by
  have hs := seenC_all k h (typeBits (l * 8 + x))
  unfold seenC cornerL at hs
  have h8 := congrArg (fun l => l[8]?) hs
  have h9 := congrArg (fun l => l[9]?) hs
  simp at h8 h9
  exact ⟨mat_fixed k l x h bs _ _ h8 (by decide), mat_fixed k l x h bs _ _ h9 (by decide)⟩
/-- The codes of the 32 formats. -/
def fmtCodes : List Nat := [21522, 20773, 24188, 23371, 17913, 16590, 20375, 19104, 30660, 29427, 32170, 30877, 26159, 25368, 27713, 26998, 5769, 5054, 7399, 6608, 1890, 597, 3340, 2107, 13663, 12392, 16177, 14854, 9396, 8579, 11994, 11245]
theorem fmt_val : ∀ t, t < 32 → bval (typeBits t) = fmtCodes.getD t 0 := by
  have h : (List.range 32).all (fun t => bval (typeBits t) == fmtCodes.getD t 0) = true := by kernel_rfl
  intro t ht
  rw [List.all_eq_true] at h
  exact beq_iff_eq.1 (h t (List.mem_range.2 ht))
theorem ver_val : bval versionBits7 = 31892 := by kernel_rfl
end
end Go.Proofs.YtplpafbkalkchaaGreatDoor
