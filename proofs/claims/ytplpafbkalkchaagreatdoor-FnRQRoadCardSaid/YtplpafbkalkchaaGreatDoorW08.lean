/- Walks: the generators are made. Walks: the words of error correction. -/
import Derived.Test.YtplpafbkalkchaaGreatDoorW07
import Derived.Test.YtplpafbkalkchaaGreatDoorW01
namespace Go.Proofs.YtplpafbkalkchaaGreatDoor
open Go Go.RowKit Go.Proofs
set_option linter.all false

section
theorem info265 : (Tryz.prog.info? 265).map (fun i => (i.zero, i.size, i.bytes)) = some (some (.pointer none), 1, 8) := by kernel_rfl
theorem gen_zero : gen 0 = [1] := by decide
set_option maxRecDepth 100000 in
theorem newRSE_c {w : World} {F lo : Nat} (h : GF w F lo) : Calls Tryz.prog 140 #[ptv F] w fun e w' => (∃ E C P, e = .returned (ptv E) ∧ Blk w' E [ptv F, slv C 1 1] 294 ∧ Blk w' C [ptv P] 265 ∧ PL w' P F (gen 0) ∧ w.heap.size ≤ E ∧ w.heap.size ≤ C) ∧ Kept [] w w' := by
  have HG0 := Lib.hid gen_zero
  have HB : Blk (w.alloc (Obj.cells #[Value.int .i64 1] 3)) w.heap.size ([1].map num) 3 := Blk.new w ([1].map num) 3
  have k0 : Kept [] w (w.alloc (Obj.cells #[Value.int .i64 1] 3)) := (Kept.refl _ _).alloc _
  go_enter Tryz.func140, Tryz.ntmps140
  go_wp2_with fail
  refine (newPoly_c [1] F HB (by simp) (by simp) (by have h1 := h.at_; have h2 := h.self.lt; omega)).mono ?_
  rintro e w1 ⟨rfl, hp, k1, h4, h5⟩
  rw [World.size_alloc] at hp
  have s1 := (k0.trans0 k1).size
  clear h4 h5
  go_wp2_with fail
  go_ret
  have hb1 := Blk.new w1 [ptv (w.heap.size + 1)] 265
  refine ⟨⟨w1.heap.size + 1, w1.heap.size, w.heap.size + 1, rfl, ?_, hb1.alloc _, ?_, by omega, by omega⟩, ((k0.trans0 k1).alloc _).alloc _⟩
  · have := Blk.new (w1.alloc (.cells #[ptv (w.heap.size + 1)] 265)) [ptv F, slv w1.heap.size 1 1] 294
    rw [World.size_alloc] at this; exact this
  · rw [HG0.out]; exact hp.kept (((Kept.refl _ _).alloc _).alloc _)
theorem PL.keptT {w w' : World} {P F : Nat} {cs : List Nat} {S : List Nat} (h : PL w P F cs) (hk : Kept S w w') (hS : ∀ x ∈ S, ∃ us, Blk w x us 265) : PL w' P F cs := by
  obtain ⟨C, h⟩ := h
  refine ⟨C, h.keptS hk (fun hx => ?_) (fun hx => ?_)⟩
  · obtain ⟨us, hu⟩ := hS _ hx
    obtain ⟨_, o, l, h1, _⟩ := h
    exact absurd (h1.type hu) (by decide)
  · obtain ⟨us, hu⟩ := hS _ hx
    obtain ⟨_, o, l, _, h2, _⟩ := h
    exact absurd (h2.type hu) (by decide)
theorem GX.open {w : World} {B C : Nat} {e : TypeId} {v : Value} {xs : List Value} (h : GX w B C e v xs) (hne : xs ≠ []) : ∃ g rest, v = .slice (some ⟨g, 0, none⟩) xs.length (xs.length + rest.length) ∧ Blk w g (xs ++ rest) e := by
  rcases h with ⟨rfl, h⟩ | h
  · exact ⟨C, [], rfl, by simpa using h⟩
  · obtain ⟨g, rest, h1, _, h2, _⟩ := h.open hne
    exact ⟨g, rest, h1, h2⟩
theorem GX.keeps0 {w w' : World} {B C : Nat} {e : TypeId} {v : Value} {xs : List Value} (h : GX w B C e v xs) (hk : Kept [] w w') : GX w' B C e v xs := by
  rcases h with ⟨rfl, h⟩ | h
  · exact .inl ⟨rfl, hk.blk h (by simp)⟩
  · exact .inr (h.keeps0 hk)
set_option maxRecDepth 100000 in
set_option maxHeartbeats 2000000 in
theorem buildGen_c {w : World} {F lo E C P : Nat} (h : GF w F lo) (hE : Blk w E [ptv F, slv C 1 1] 294) (hC : Blk w C [ptv P] 265) (hP : PL w P F (gen 0)) (n : Nat) (h1 : 1 ≤ n) (h30 : n < 30) (hElo : E < lo ∨ lo + 7 ≤ E) :
    Calls Tryz.prog 174 #[ptv E, num n] w fun e w' => (∃ Q, e = .returned (ptv Q) ∧ PL w' Q F (gen n)) ∧ (∃ v, Blk w' E [ptv F, v] 294) ∧ Kept [E] w w' := by
  have hni : (n : Int) ≤ 30 := by omega
  have h1i : (1 : Int) ≤ n := by omega
  have e0 := hE.at (i := 0) rfl
  have e1 := hE.at (i := 1) rfl
  have c0 := hC.at (i := 0) rfl
  have HG := Lib.hid h
  clear h
  go_enter Tryz.func174, Tryz.ntmps174
  go_wp2_with fail
  go_loopw [6, 7] (fun sl sd wr => ∃ (d L : Nat) (v : Value) (ps : List Nat), 1 ≤ d ∧ d ≤ n + 1 ∧ sd = num d ∧ sl = ptv L ∧ Blk wr E [ptv F, v] 294 ∧ Hid (GX wr w.heap.size C 265 v (ps.map ptv)) ∧ Hid (ps.length = d ∧ ps[d - 1]? = some L) ∧ Hid (PL wr L F (gen (d - 1))) ∧ Kept [E] w wr) (fun _ d _ => n + 1 - (intOf d).toNat)
  case atStart => exact ⟨1, P, slv C 1 1, [P], by omega, by omega, rfl, rfl, hE, Lib.hid (.inl ⟨rfl, hC⟩), Lib.hid ⟨rfl, rfl⟩, Lib.hid hP, Kept.refl _ _⟩
  case round =>
    obtain ⟨d, L, v, ps, hd1, hdn, rfl, rfl, hEr, HX, HPS, HL, hkr⟩ := hrel
    have hdi : (d : Int) ≤ 31 := by omega
    have hd1i : (1 : Int) ≤ d := by omega
    have f0 := hEr.at (i := 0) rfl
    have f1 := hEr.at (i := 1) rfl
    have fr1 := hEr.free 1
    have hgf := Lib.hid (HG.out)
    by_cases hle : d ≤ n
    · have hlei : (d : Int) ≤ n := by omega
      have hd2 : (d : Int) - 1 = ((d - 1 : Nat) : Int) := by omega
      have HD2 := Lib.hid hd2
      clear hd2
      go_wp2_with fail
      have HGr : Hid (GF wr F lo) := Lib.hid (HG.out.kept hkr (by intro x hx; simp at hx; subst hx; exact hElo))
      have hEl := hEr.lt
      have HEL := Lib.hid hEl
      clear fr1 f1 hgf e0 e1 c0 hEl
      have HD3 : Hid ((d : Int) - 1 = ((d - 1 : Nat) : Int)) := Lib.hid (by omega)
      have hw1 : IntKind.i64.wrap ((d : Int) - 1) = (d : Int) - 1 := by rw [IntKind.wrap_i64]; omega
      go_region_held3 (fun w' => w'.cell? ⟨E, 0, none⟩ = some (ptv F)) (go_keep)
        (first
        | (go_at_call 209; refine (base_c (HGr.out.kept0 (Kept.refl [] wr).drew)).mono ?_; rintro e w' ⟨rfl, rfl⟩)
        | (go_at_call 208; refine (exp_c (HGr.out.kept0 (Kept.refl [] wr).drew) _ (d - 1) (by first | omega | (simp only [Int.add_zero]; rw [hw1]; omega)) (by omega)).mono ?_; rintro e w' ⟨rfl, rfl⟩)
        | (go_at_call 157; refine (newPoly_n [1, gexp (d - 1)] F 2 (by first | exact (Blk.new wr ([1, gexp (d - 1)].map num) 3).drew | exact Blk.new wr.drew ([1, gexp (d - 1)].map num) 3) (by simp) (by simp) rfl (by have h1 := HGr.out.at_; have h2 := HGr.out.self.lt; omega)).mono ?_; rintro e w' ⟨rfl, hp, hk⟩; have hcl := hk.cells E 0 (by simp; have := HEL.out; omega)))
      change PL w' ((wr.alloc (Obj.cells #[Value.int IntKind.i64 1, num (gexp (d - 1))] 3)).heap.size) F _ at hp
      rw [World.size_alloc] at hp
      have kk : Kept [] wr w' := ((Kept.refl _ _).alloc _).drew.trans0 hk
      have hx := exp_bd (d - 1) (by omega)
      have hst : strip [1, gexp (d - 1)] = [1, gexp (d - 1)] := strip_one _ (by simp) (.inr (by simp))
      rw [hst] at hp
      have HP2 := Lib.hid hp
      have hgl := gen_len (d - 1) (by omega)
      have hgh := gen_head (d - 1) (by omega)
      have HGT : Hid (pmul (gen (d - 1)) [1, gexp (d - 1)] = gen d) := Lib.hid (by rw [← gens_step (d - 1) (by omega), show d - 1 + 1 = d by omega])
      have HGL := Lib.hid hgl
      have HGZ : Hid (isZ (gen (d - 1)) = false) := Lib.hid (isZ_false.2 (by rw [hgh]; decide))
      have HBD : Hid (∀ x ∈ [1, gexp (d - 1)], x < 256) := Lib.hid (by intro x hx'; simp at hx'; omega)
      clear hst hp hcl hk hgl hgh hw1
      generalize wr.heap.size + 1 = P2 at HP2 ⊢
      go_wp2_with fail
      refine (mulPoly_c (HGr.out.kept0 kk) (HL.out.kept kk) HP2.out (by rw [HGL.out]; omega) (by simp) (gen_lt (d - 1) (by omega)) HBD.out HGZ.out (isZ_false.2 (by simp))).mono ?_
      rintro e w6 ⟨⟨Q, rfl, hQ⟩, k6⟩
      rw [HGT.out] at hQ
      have HQ := Lib.hid hQ
      have kE : Kept [] wr w6 := kk.trans0 k6
      have hE6 := kE.blk hEr (by simp)
      have g0 := hE6.at (i := 0) rfl
      have g1 := hE6.at (i := 1) rfl
      have gf1 := hE6.free 1
      have HX6 := Lib.hid ((HX.out.keeps0 kE).keeps0 ((Kept.refl [] w6).alloc (.cells #[ptv Q] 265)))
      have hsz := kE.size
      have hsz0 := hkr.size
      clear hQ f0
      have hpl : (ps.map ptv).length ≤ 100000 := by rw [List.length_map, HPS.out.1]; omega
      have hAA : (w6.alloc (.cells #[ptv Q] 265)).cell? ⟨w6.heap.size, 0, none⟩ = some (ptv Q) := (Blk.new w6 [ptv Q] 265).at (i := 0) rfl
      have hB6 : w.heap.size ≤ (w6.alloc (.cells #[ptv Q] 265)).heap.size := by rw [World.size_alloc]; omega
      have HAA := Lib.hid hAA
      have HB6 := Lib.hid hB6
      clear hAA hB6
      go_wp2_with (at_builtin; refine app_gx rfl _ _ 292 rfl 265 (.pointer none) 8 Tryz.underlying292 info265 rfl (by omega) w.heap.size C v (ptv Q) (ps.map ptv) rfl HX6.out w6.heap.size rfl HAA.out rfl hpl HB6.out ?_; intro S v' w7 hS hgr hkS; obtain ⟨g, rest, rfl, hgB, hgb, hgm⟩ := hgr.open (by simp); have hE7 := Blk.keptT (hE6.alloc _) hkS (fun x hx => (hS x hx).2) (by decide); have e7f := hE7.free 1; have e7c := hE7.at (i := 1) rfl)
      have hQ7 := (HQ.out.kept ((Kept.refl [] w6).alloc (.cells #[ptv Q] 265))).keptT hkS (fun x hx => (hS x hx).2)
      have hgE : g ≠ E := fun h => by subst h; exact absurd (hgb.type hE7) (by decide)
      have hk7 : Kept [E] w w7 := (((hkr.trans0 kE).alloc (.cells #[ptv Q] 265))).trans hkS (fun x hx hl => by have := (hS x hx).1; omega)
      go_roundw
      case rel =>
        refine ⟨d + 1, Q, _, ps ++ [Q], by omega, by omega, by go_num, rfl, hE7.set 1 _, Lib.hid (.inr ?_), Lib.hid ⟨by rw [List.length_append, HPS.out.1]; rfl, by rw [show d + 1 - 1 = ps.length by rw [HPS.out.1]; omega]; simp⟩, Lib.hid ?_, hk7.setCell (by simp) _⟩
        · rw [List.map_append]
          have h9 := GR.mk hgB (hgb.set_other (a := ⟨E, 1, none⟩) (by simp; exact Ne.symm hgE) (.slice (some ⟨g, 0, none⟩) (ps.length + 1) (ps.length + 1 + rest.length))) hgm
          simp only [List.length_append, List.length_map, List.length_cons, List.length_nil, Nat.zero_add] at h9
          exact h9
        · rw [show d + 1 - 1 = d by omega]
          obtain ⟨C', hq⟩ := hQ7
          refine ⟨C', hq.keptS (S := [E]) ((Kept.refl _ _).setCell (by simp) _) ?_ ?_⟩
          · intro hx; simp at hx; obtain ⟨_, o, l, q1, _⟩ := hq; rw [hx] at q1; exact absurd (q1.type hE7) (by decide)
          · intro hx; simp at hx; obtain ⟨_, o, l, _, q1, _⟩ := hq; rw [hx] at q1; exact absurd (q1.type hE7) (by decide)
      case measure => simp [intOf]; omega
    · obtain rfl : d = n + 1 := by omega
      have hps : (ps.map ptv) ≠ [] := by intro h; have := HPS.out.1; rw [List.map_eq_nil_iff] at h; rw [h] at this; simp at this
      obtain ⟨g, rest, rfl, hgb⟩ := HX.out.open hps
      have hlen : (ps.map ptv).length = n + 1 := by rw [List.length_map, HPS.out.1]
      have hL := HPS.out.2
      rw [show n + 1 - 1 = n by omega] at hL
      have hcell := hgb.at (i := n) (v := ptv L) (by rw [List.getElem?_append_left (by omega), List.getElem?_map, hL]; rfl)
      rw [hlen] at f1
      have hlr : n < n + 1 + rest.length := by omega
      have HLL := Lib.hid HL.out
      clear hL hlen hps
      go_wp2_with fail
      go_ret
      exact ⟨⟨L, rfl, HLL.out⟩, ⟨_, hEr⟩, hkr⟩
end

section
theorem evalP_append (a c : List Nat) (x : Nat) : evalP (a ++ c) x = c.foldl (fun r y => gmul x r ^^^ y) (evalP a x) := by unfold evalP; rw [List.foldl_append]
theorem psum_tail (D E : List Nat) : psum E (D ++ List.replicate E.length 0) = D ++ E := by
  unfold psum
  have hl : (D ++ List.replicate E.length 0).length - E.length = D.length := by simp
  rw [hl, List.take_append_of_le_length (Nat.le_refl _), List.take_length]
  congr 1
  rw [List.drop_append_of_le_length (Nat.le_refl _), List.drop_length, List.nil_append]
  apply List.ext_getElem
  · simp
  · intro i h1 h2; simp
theorem code_zero (D r : List Nat) (ec : Nat) (hD : ∀ y ∈ D, y < 256) (hr : ∀ y ∈ r, y < 256) (hl : r.length ≤ ec) (x : Nat) (hx : x < 256) (hv : evalP r x = evalP (D ++ List.replicate ec 0) x) :
    evalP (D ++ (List.replicate (ec - r.length) 0 ++ r)) x = 0 := by
  have hel : (List.replicate (ec - r.length) 0 ++ r).length = ec := by simp; omega
  have hE := rep_lt (ec - r.length) r hr
  have h := evalP_psum (List.replicate (ec - r.length) 0 ++ r) (D ++ List.replicate (List.replicate (ec - r.length) 0 ++ r).length 0) (by simp) x hx hE (by
    intro y hy
    rcases List.mem_append.1 hy with hy | hy
    · exact hD y hy
    · simp at hy; omega)
  rw [psum_tail, hel, evalP_zeros, hv, Nat.xor_self] at h
  exact h
theorem scale_one (cs : List Nat) (h : ∀ y ∈ cs, y < 256) (d : Nat) : scaled cs d 1 = cs ++ List.replicate d 0 := by
  unfold scaled
  congr 1
  conv => rhs; rw [← List.map_id cs]
  exact List.map_congr_left (fun y hy => gmul_one_right y (h y hy))
/-- Fine words of error correction for D. -/
structure Fine (D L : List Nat) (ec : Nat) : Prop where
  len : L.length = ec
  lt : ∀ y ∈ L, y < 256
  zero : ∀ i, i < ec → evalP (D ++ L) (gexp i) = 0
theorem fine_of {D r : List Nat} {ec : Nat} (h1 : 1 ≤ ec) (h30 : ec < 30) (hD : ∀ y ∈ D, y < 256) (hr : Rest (mulMono (strip D) ec 1) (gen ec) r) (he : r.length < (gen ec).length ∨ isZ r = true) :
    r.length ≤ ec ∧ Fine D (List.replicate (ec - r.length) 0 ++ r) ec := by
  have hl : r.length ≤ ec := by
    rcases he with he | he
    · rw [gen_len ec (by omega)] at he; omega
    · rw [norm_zero hr.norm he]; simpa using h1
  refine ⟨hl, by simp; omega, rep_lt _ r hr.lt, fun i hi => ?_⟩
  have hx := (exp_bd i (by omega)).1
  apply code_zero D r ec hD hr.lt hl _ hx
  rw [hr.val _ hx (gen_root ec (by omega) i hi)]
  unfold mulMono
  rw [if_neg (by decide), evalP_strip, scale_one _ (strip_lt hD), evalP_append, evalP_strip, ← evalP_append]
theorem getD_map_num (l : List Nat) (i : Nat) (h : i < l.length) : (l.map num)[i]? = some (num (l.getD i 0)) := tab_get l i h
set_option maxRecDepth 100000 in
set_option maxHeartbeats 2000000 in
theorem encode_c {w : World} {F lo E C P A : Nat} (h : GF w F lo) (hE : Blk w E [ptv F, slv C 1 1] 294) (hC : Blk w C [ptv P] 265) (hP : PL w P F (gen 0)) (hElo : E < lo ∨ lo + 7 ≤ E) (D : List Nat) (ec n : Nat) (hn : D.length = n) (hn1 : 1 ≤ n) (hn9 : n ≤ 130) (h1 : 1 ≤ ec) (h30 : ec < 30)
    (hA : Blk w A ((D ++ List.replicate ec 0).map num) 3) (hD : ∀ y ∈ D, y < 256) (hAF : A < F) :
    Calls Tryz.prog 141 #[ptv E, slv A (n + ec) (n + ec), num ec] w fun e w' => e = .returned .nilIface ∧ (∃ L, Fine D L ec ∧ Blk w' A ((D ++ L).map num) 3) ∧ Kept [E, A] w w' := by
  have hni : (n : Int) ≤ 130 := by omega
  have hn1i : (1 : Int) ≤ n := by omega
  have h1i : (1 : Int) ≤ ec := by omega
  have h30i : (ec : Int) < 30 := by omega
  have HN := Lib.hid hn
  have hEA : E ≠ A := by intro he; subst he; exact absurd (hE.type hA) (by decide)
  have e0 := hE.at (i := 0) rfl
  have HD := Lib.hid hD
  have HAl := hA.lt
  have hmk := mk_ints (n : Int) (n : Int) n n rfl rfl (by omega) (by omega)
  clear hn
  go_enter Tryz.func141, Tryz.ntmps141
  go_wp2_with fail
  refine (buildGen_c h hE hC hP ec h1 h30 hElo).mono ?_
  rintro e w1 ⟨⟨Q, rfl, hQ⟩, ⟨v1, hE1⟩, hk1⟩
  have hA1 := hk1.blk hA (by simp; exact Ne.symm hEA)
  have hG1 := h.kept hk1 (by intro x hx; simp at hx; subst hx; exact hElo)
  have HQ := Lib.hid hQ
  have HG1 := Lib.hid hG1
  clear hQ hG1
  have HB0 : Blk (w1.alloc (Obj.cells (Array.replicate n (Value.int .i64 0)) 3)) w1.heap.size (List.replicate n (num 0)) 3 := Blk.of (by simp) (Blk.newA w1 _ 3)
  have hA1' : Blk (w1.alloc (Obj.cells (Array.replicate n (Value.int .i64 0)) 3)) A ((D ++ List.replicate ec 0).map num) 3 := hA1.alloc _
  obtain ⟨w3, hcp, hb3, hk3⟩ := run_copy_blk (P := Tryz.prog) (dT := 157) (sT := 157) (ty := 3) (elem := 3) Tryz.underlying157 (by kernel_rfl) HB0 hA1' 0 0 n n (n + ec) (n + ec) n (Nat.min_eq_right (by omega)).symm (by simp) (by simp; have := HN.out; omega)
    (by intro v hv; simp only [List.mem_map] at hv; obtain ⟨x, _, rfl⟩ := hv; rfl)
  have hb4 : Blk w3 w1.heap.size (D.map num) 3 := by
    have e : (List.replicate n (num 0)).take 0 ++ ((List.map num (D ++ List.replicate ec 0)).drop 0).take n ++ (List.replicate n (num 0)).drop (0 + n) = D.map num := by
      rw [List.take_zero, List.nil_append, List.drop_zero, List.map_append, List.take_append_of_le_length (by rw [List.length_map, HN.out]; exact Nat.le_refl _), List.take_of_length_le (by rw [List.length_map, HN.out]; exact Nat.le_refl _)]
      simp
    rw [e] at hb3; exact hb3
  have k3 : Kept [] w1 w3 := ((Kept.refl _ _).alloc _).trans hk3 (by intro x hx hl; simp at hx; omega)
  have k03 : Kept [E] w w3 := hk1.trans0 k3
  have hA3 := Lib.hid (k03.blk hA (by simp; exact Ne.symm hEA))
  have e03 : w3.cell? ⟨E, 0, none⟩ = some (ptv F) := by
    exact (k3.blk hE1 (by simp)).at (i := 0) rfl
  clear hb3 hA1' HB0 hA1
  go_wp2_with fail
  refine (newPoly_n D F n hb4 (by intro hh; have := HN.out; rw [hh] at this; simp at this; omega) (by rw [HN.out]; omega) HN.out (by have h1 := HG1.out.at_; have h2 := HG1.out.self.lt; omega)).mono ?_
  rintro e w4 ⟨rfl, hp, k4⟩
  have HP4 := Lib.hid hp
  clear hcp hmk hp
  go_wp2_with fail
  refine (mulMono_c ((HG1.out.kept0 k3).kept0 k4) HP4.out (by have := strip_length D; have := HN.out; omega) (strip_lt HD.out) ec 1 (by omega) (by omega)).mono ?_
  rintro e w5 ⟨⟨I, rfl, hI⟩, k5⟩
  have HI := Lib.hid hI
  clear hI
  have hmm : Norm (mulMono (strip D) ec 1) ∧ (mulMono (strip D) ec 1).length ≤ 200 ∧ ∀ y ∈ mulMono (strip D) ec 1, y < 256 := by
    have hs := strip_length D
    have hN := HN.out
    have hdn : D ≠ [] := by intro hh; rw [hh] at hN; simp at hN; omega
    unfold mulMono
    rw [if_neg (by decide)]
    have hsl := scaled_len (strip D) ec 1
    have hst := strip_length (scaled (strip D) ec 1)
    have hsn := (strip_norm D hdn).1
    exact ⟨strip_norm _ (by intro hh; have h2 := congrArg List.length hh; rw [hsl] at h2; simp at h2; exact hsn h2.1), by omega, strip_lt (scaled_lt _ _ _)⟩
  have HMM := Lib.hid hmm
  clear hmm
  have hgl := gen_len ec (by omega)
  have HGL := Lib.hid hgl
  clear hgl
  go_wp2_with fail
  refine (divide_c (((HG1.out.kept0 k3).kept0 k4).kept0 k5) HI.out ((((HQ.out.kept k3).kept k4).kept k5)) HMM.out.1 HMM.out.2.1 (by rw [HGL.out]; omega) HMM.out.2.2 (gen_lt ec (by omega)) (gen_head ec (by omega)) (by rw [HGL.out]; omega)).mono ?_
  rintro e w6 ⟨⟨Q2, R, r, rfl, hR, hrest, hend⟩, k6⟩
  have HF := Lib.hid (fine_of h1 h30 HD.out hrest hend)
  have HR := Lib.hid hR
  clear hR hrest hend
  go_wp2_with fail
  refine (getCoefs_c HR.out).mono ?_
  rintro e wx ⟨⟨CC, oc, lc, rfl, hcb, hcd, hcl, hcF⟩, rfl⟩
  obtain ⟨nz, hnz⟩ : ∃ nz, ec - r.length = nz := ⟨_, rfl⟩
  have hrl := HF.out.1
  have hr1 : 1 ≤ r.length := by
    obtain ⟨_, hne, _⟩ := HR.out
    cases r with
    | nil => exact absurd rfl hne
    | cons x y => simp
  have hsub : (ec : Int) - (r.length : Int) = (nz : Int) := by omega
  have hrli : (r.length : Int) ≤ ec := by omega
  have hr1i : (1 : Int) ≤ r.length := by omega
  have hnzi : (nz : Int) ≤ ec := by omega
  have HNZ := Lib.hid hnz
  have HFF := Lib.hid HF.out.2
  have HCD := Lib.hid hcd
  have HCL := Lib.hid hcl
  have k36 : Kept [] w3 w6 := (k4.trans0 k5).trans0 k6
  have hA6 := k36.blk hA3.out (by simp)
  have hAC : A ≠ CC := by omega
  have k06 : Kept [E, A] w w6 := (k03.trans0 k36).mono (by simp)
  rw [hnz] at HFF
  clear hnz hcd hcl k4 k5 k6
  go_wp2_with fail
  clear hsub
  go_loopw [17] (fun i wr => ∃ k : Nat, k ≤ nz ∧ i = num k ∧ Kept [E, A] w wr ∧ Blk wr A ((D ++ List.replicate ec 0).map num) 3 ∧ Blk wr CC (lc.map num) 3) (fun i _ => nz - (intOf i).toNat)
  case atStart => exact ⟨0, by omega, rfl, k06, hA6, hcb⟩
  case round =>
    obtain ⟨k, hk, rfl, hkr, hAr, hCr⟩ := hrel
    have hki : (k : Int) ≤ nz := by omega
    by_cases hlt : k < nz
    · have hlti : (k : Int) < nz := by omega
      have hx : ((D ++ List.replicate ec 0).map num)[n + k]? = some (num 0) := by
        rw [List.getElem?_map, List.getElem?_append_right (by rw [HN.out]; omega), HN.out, List.getElem?_replicate, if_pos (by omega)]; rfl
      have hc0 := hAr.at hx
      have hcf := hAr.free (n + k)
      have HX : Hid (((D ++ List.replicate ec 0).map num).set (n + k) (num 0) = (D ++ List.replicate ec 0).map num) := Lib.hid (by
        apply List.ext_getElem?
        intro j
        rw [List.getElem?_set]
        split
        · rename_i hj; subst hj; split
          · rw [hx]
          · rename_i hj2; rw [List.getElem?_eq_none (by omega)] at hx; cases hx
        · rfl)
      clear hx
      go_wp2_with fail
      go_roundw
      case rel =>
        refine ⟨k + 1, by omega, by go_num, hkr.setCell (.inl (by simp)) _, ?_, hCr.set_other (by simp; exact hAC) _⟩
        rw [← HX.out]; exact hAr.set (n + k) _
      case measure => simp [intOf]; omega
    · obtain rfl : k = nz := by omega
      obtain ⟨wz, hcp, hbz, hkz⟩ := run_copy_blk (P := Tryz.prog) (dT := 157) (sT := 157) (ty := 3) (elem := 3) Tryz.underlying157 (by kernel_rfl) hAr hCr (n + k) oc r.length r.length r.length r.length r.length (Nat.min_self _).symm (by simp; have := HN.out; have := HNZ.out; omega) (by rw [List.length_map]; have := HCL.out; omega)
        (by intro v hv; simp only [List.mem_map] at hv; obtain ⟨x, _, rfl⟩ := hv; rfl)
      have hbz2 : Blk wz A ((D ++ (List.replicate k 0 ++ r)).map num) 3 := by
        have e : ((D ++ List.replicate ec 0).map num).take (n + k) ++ ((lc.map num).drop oc).take r.length ++ ((D ++ List.replicate ec 0).map num).drop (n + k + r.length) = (D ++ (List.replicate k 0 ++ r)).map num := by
          have hN := HN.out
          have hZ := HNZ.out
          have e1 : ((lc.map num).drop oc).take r.length = r.map num := by rw [← List.map_drop, HCD.out]; exact List.take_of_length_le (by simp)
          have e2 : ((D ++ List.replicate ec 0).map num).take (n + k) = (D ++ List.replicate k 0).map num := by
            rw [← List.map_take, List.take_append, List.take_of_length_le (by omega), List.take_replicate]
            congr 3; omega
          have e3 : ((D ++ List.replicate ec 0).map num).drop (n + k + r.length) = [] := List.drop_eq_nil_of_le (by rw [List.length_map, List.length_append, List.length_replicate]; omega)
          rw [e1, e2, e3, List.append_nil, ← List.map_append, List.append_assoc]
        rw [e] at hbz; exact hbz
      have hcap : n + ec - (n + k) = r.length := by have := HNZ.out; omega
      go_wp2_with fail
      go_ret
      exact ⟨rfl, ⟨_, HFF.out, hbz2⟩, hkr.trans hkz (by simp)⟩
end
end Go.Proofs.YtplpafbkalkchaaGreatDoor
