/- Words for the reading of a text: the source, the row that grows, and what stays. Walks: bits are read out of a source. Walk: digits are read. -/
import Derived.Test.YtplpafbkalkchaaGreatDoorW37
import Derived.Test.YtplpafbkalkchaaGreatDoorW28
import Derived.Test.YtplpafbkalkchaaGreatDoorW41
import Derived.Test.YtplpafbkalkchaaGreatDoorW42
namespace Go.Proofs.YtplpafbkalkchaaGreatDoor
open Go Go.RowKit Go.Proofs
set_option linter.all false

section
theorem GR.keptT {w w' : World} {base : Nat} {e : TypeId} {v : Value} {xs : List Value} {S : List Nat} (h : GR w base e v xs) (hk : Kept S w w') (hS : ∀ x ∈ S, (∃ us U, Blk w x us U ∧ U ≠ e) ∨ w.heap.size ≤ x) : GR w' base e v xs := by
  obtain ⟨h1, h2 | ⟨g, cap, cur, hv, hb, hg, hr⟩⟩ := h
  · exact ⟨h1, .inl h2⟩
  · have hbk : Blk w g cur.toList e := by unfold Blk; simpa using hg
    have hl := hbk.lt
    refine ⟨h1, .inr ⟨g, cap, cur, hv, hb, ?_, hr⟩⟩
    rw [hk.block g hl (fun hx => by
      rcases hS g hx with ⟨us, U, hu, hne⟩ | h
      · exact hne (hu.type hbk)
      · omega)]
    exact hg
/-- Behind p bits of the source the row v holds out; what is older than base stands as in w0. -/
structure SegW (w0 w : World) (base S D : Nat) (xs : List Nat) (p : Nat) (v : Value) (out : List Nat) : Prop where
  src : BS w S D xs p
  row : GR w base 5 v (out.map u8c)
  kept : Below base w0 w
  loS : base ≤ S
  loD : D < base
  few : out.length ≤ 300
theorem SegW.lo {w0 w : World} {base S D : Nat} {xs : List Nat} {p : Nat} {v : Value} {out : List Nat} (h : SegW w0 w base S D xs p v out) : base ≤ w.heap.size := by have := h.src.st.lt; have := h.loS; omega
theorem SegW.read {w0 w w' : World} {base S D : Nat} {xs : List Nat} {p p' : Nat} {v : Value} {out : List Nat} (h : SegW w0 w base S D xs p v out) (hs : BS w' S D xs p') (hk : Kept [S] w w') : SegW w0 w' base S D xs p' v out :=
  ⟨hs, h.row.keptT hk (fun x hx => by simp at hx; subst hx; exact .inl ⟨_, 378, h.src.st, by decide⟩), h.kept.trans (hk.below h.lo (fun x hx => by simp at hx; subst hx; exact h.loS)), h.loS, h.loD, h.few⟩
theorem SegW.quiet {w0 w w' : World} {base S D : Nat} {xs : List Nat} {p : Nat} {v : Value} {out : List Nat} (h : SegW w0 w base S D xs p v out) (hk : Kept [] w w') : SegW w0 w' base S D xs p v out :=
  ⟨h.src.kept hk (by simp) (by simp), h.row.keeps0 hk, h.kept.trans (hk.below h.lo (by simp)), h.loS, h.loD, h.few⟩
theorem SegW.own {w0 w : World} {base S D : Nat} {xs : List Nat} {p : Nat} {v : Value} {out : List Nat} (h : SegW w0 w base S D xs p v out) (u : Nat) : GR (w.alloc (.cells #[u8c u] 5)) base 5 v (out.map u8c) := h.row.keeps0 ((Kept.refl _ _).alloc _)
theorem SegW.cell (w : World) (u : Nat) : (w.alloc (.cells #[u8c u] 5)).cell? ⟨w.heap.size, 0, none⟩ = some (u8c u) := (Blk.new w [u8c u] 5).at (i := 0) rfl
theorem SegW.loA {w0 w : World} {base S D : Nat} {xs : List Nat} {p : Nat} {v : Value} {out : List Nat} (h : SegW w0 w base S D xs p v out) (u : Nat) : base ≤ (w.alloc (.cells #[u8c u] 5)).heap.size := by rw [World.size_alloc]; have := h.lo; omega
theorem SegW.len {w0 w : World} {base S D : Nat} {xs : List Nat} {p : Nat} {v : Value} {out : List Nat} (h : SegW w0 w base S D xs p v out) : (out.map u8c).length ≤ 100000 := by rw [List.length_map]; have := h.few; omega
theorem SegW.app {w0 w w7 : World} {base S D : Nat} {xs : List Nat} {p : Nat} {v v' : Value} {out : List Nat} {u : Nat} (h : SegW w0 w base S D xs p v out) (hg : GR w7 base 5 v' (out.map u8c ++ [u8c u])) (hk : Kept v.ownBlock.toList (w.alloc (.cells #[u8c u] 5)) w7) (hf : out.length < 300) :
    SegW w0 w7 base S D xs p v' (out ++ [u]) := by
  have ho := h.row.ownType
  have hka : Kept [] w (w.alloc (.cells #[u8c u] 5)) := (Kept.refl _ _).alloc _
  have h2 := h.quiet hka
  refine ⟨h2.src.kept hk (fun hx => ?_) (fun hx => ?_), by rw [List.map_append]; exact hg, h2.kept.trans (hk.below h2.lo (fun x hx => (ho x hx).1)), h.loS, h.loD, by rw [List.length_append, List.length_singleton]; omega⟩
  · obtain ⟨_, us, hu⟩ := ho S hx
    have := hu.type h.src.st; cases this
  · have := (ho D hx).1
    have := h.loD; omega
end

section
/-- How many bits the decoder asks for. -/
def Ask (k : Nat) : Prop := k = 4 ∨ k = 6 ∨ k = 7 ∨ k = 8 ∨ k = 9 ∨ k = 10 ∨ k = 11
theorem read_r0 {w : World} {S D : Nat} {xs : List Nat} {q k : Nat} (h : BS w S D xs (8 * q + 0)) (hk : Ask k) (hfit : 8 * q + 0 + k ≤ 8 * xs.length) :
    Calls Tryz.prog 227 #[ptv S, intc k] w fun e w' => e = .returned (.tuple #[intc (rd (byteBits xs) (8 * q + 0) k), .nilIface]) ∧ BS w' S D xs (8 * q + 0 + k) ∧ Kept [S] w w' := by
  rcases hk with rfl | rfl | rfl | rfl | rfl | rfl | rfl
  · exact read_0_4 h hfit
  · exact read_0_6 h hfit
  · exact read_0_7 h hfit
  · exact read_0_8 h hfit
  · exact read_0_9 h hfit
  · exact read_0_10 h hfit
  · exact read_0_11 h hfit
theorem read_r1 {w : World} {S D : Nat} {xs : List Nat} {q k : Nat} (h : BS w S D xs (8 * q + 1)) (hk : Ask k) (hfit : 8 * q + 1 + k ≤ 8 * xs.length) :
    Calls Tryz.prog 227 #[ptv S, intc k] w fun e w' => e = .returned (.tuple #[intc (rd (byteBits xs) (8 * q + 1) k), .nilIface]) ∧ BS w' S D xs (8 * q + 1 + k) ∧ Kept [S] w w' := by
  rcases hk with rfl | rfl | rfl | rfl | rfl | rfl | rfl
  · exact read_1_4 h hfit
  · exact read_1_6 h hfit
  · exact read_1_7 h hfit
  · exact read_1_8 h hfit
  · exact read_1_9 h hfit
  · exact read_1_10 h hfit
  · exact read_1_11 h hfit
theorem read_r2 {w : World} {S D : Nat} {xs : List Nat} {q k : Nat} (h : BS w S D xs (8 * q + 2)) (hk : Ask k) (hfit : 8 * q + 2 + k ≤ 8 * xs.length) :
    Calls Tryz.prog 227 #[ptv S, intc k] w fun e w' => e = .returned (.tuple #[intc (rd (byteBits xs) (8 * q + 2) k), .nilIface]) ∧ BS w' S D xs (8 * q + 2 + k) ∧ Kept [S] w w' := by
  rcases hk with rfl | rfl | rfl | rfl | rfl | rfl | rfl
  · exact read_2_4 h hfit
  · exact read_2_6 h hfit
  · exact read_2_7 h hfit
  · exact read_2_8 h hfit
  · exact read_2_9 h hfit
  · exact read_2_10 h hfit
  · exact read_2_11 h hfit
theorem read_r3 {w : World} {S D : Nat} {xs : List Nat} {q k : Nat} (h : BS w S D xs (8 * q + 3)) (hk : Ask k) (hfit : 8 * q + 3 + k ≤ 8 * xs.length) :
    Calls Tryz.prog 227 #[ptv S, intc k] w fun e w' => e = .returned (.tuple #[intc (rd (byteBits xs) (8 * q + 3) k), .nilIface]) ∧ BS w' S D xs (8 * q + 3 + k) ∧ Kept [S] w w' := by
  rcases hk with rfl | rfl | rfl | rfl | rfl | rfl | rfl
  · exact read_3_4 h hfit
  · exact read_3_6 h hfit
  · exact read_3_7 h hfit
  · exact read_3_8 h hfit
  · exact read_3_9 h hfit
  · exact read_3_10 h hfit
  · exact read_3_11 h hfit
theorem read_r4 {w : World} {S D : Nat} {xs : List Nat} {q k : Nat} (h : BS w S D xs (8 * q + 4)) (hk : Ask k) (hfit : 8 * q + 4 + k ≤ 8 * xs.length) :
    Calls Tryz.prog 227 #[ptv S, intc k] w fun e w' => e = .returned (.tuple #[intc (rd (byteBits xs) (8 * q + 4) k), .nilIface]) ∧ BS w' S D xs (8 * q + 4 + k) ∧ Kept [S] w w' := by
  rcases hk with rfl | rfl | rfl | rfl | rfl | rfl | rfl
  · exact read_4_4 h hfit
  · exact read_4_6 h hfit
  · exact read_4_7 h hfit
  · exact read_4_8 h hfit
  · exact read_4_9 h hfit
  · exact read_4_10 h hfit
  · exact read_4_11 h hfit
theorem read_r5 {w : World} {S D : Nat} {xs : List Nat} {q k : Nat} (h : BS w S D xs (8 * q + 5)) (hk : Ask k) (hfit : 8 * q + 5 + k ≤ 8 * xs.length) :
    Calls Tryz.prog 227 #[ptv S, intc k] w fun e w' => e = .returned (.tuple #[intc (rd (byteBits xs) (8 * q + 5) k), .nilIface]) ∧ BS w' S D xs (8 * q + 5 + k) ∧ Kept [S] w w' := by
  rcases hk with rfl | rfl | rfl | rfl | rfl | rfl | rfl
  · exact read_5_4 h hfit
  · exact read_5_6 h hfit
  · exact read_5_7 h hfit
  · exact read_5_8 h hfit
  · exact read_5_9 h hfit
  · exact read_5_10 h hfit
  · exact read_5_11 h hfit
theorem read_r6 {w : World} {S D : Nat} {xs : List Nat} {q k : Nat} (h : BS w S D xs (8 * q + 6)) (hk : Ask k) (hfit : 8 * q + 6 + k ≤ 8 * xs.length) :
    Calls Tryz.prog 227 #[ptv S, intc k] w fun e w' => e = .returned (.tuple #[intc (rd (byteBits xs) (8 * q + 6) k), .nilIface]) ∧ BS w' S D xs (8 * q + 6 + k) ∧ Kept [S] w w' := by
  rcases hk with rfl | rfl | rfl | rfl | rfl | rfl | rfl
  · exact read_6_4 h hfit
  · exact read_6_6 h hfit
  · exact read_6_7 h hfit
  · exact read_6_8 h hfit
  · exact read_6_9 h hfit
  · exact read_6_10 h hfit
  · exact read_6_11 h hfit
theorem read_r7 {w : World} {S D : Nat} {xs : List Nat} {q k : Nat} (h : BS w S D xs (8 * q + 7)) (hk : Ask k) (hfit : 8 * q + 7 + k ≤ 8 * xs.length) :
    Calls Tryz.prog 227 #[ptv S, intc k] w fun e w' => e = .returned (.tuple #[intc (rd (byteBits xs) (8 * q + 7) k), .nilIface]) ∧ BS w' S D xs (8 * q + 7 + k) ∧ Kept [S] w w' := by
  rcases hk with rfl | rfl | rfl | rfl | rfl | rfl | rfl
  · exact read_7_4 h hfit
  · exact read_7_6 h hfit
  · exact read_7_7 h hfit
  · exact read_7_8 h hfit
  · exact read_7_9 h hfit
  · exact read_7_10 h hfit
  · exact read_7_11 h hfit
theorem read_c {w : World} {S D : Nat} {xs : List Nat} {p k : Nat} (h : BS w S D xs p) (hk : Ask k) (hfit : p + k ≤ 8 * xs.length) :
    Calls Tryz.prog 227 #[ptv S, intc k] w fun e w' => e = .returned (.tuple #[intc (rd (byteBits xs) p k), .nilIface]) ∧ BS w' S D xs (p + k) ∧ Kept [S] w w' := by
  obtain ⟨q, r, hr, rfl⟩ : ∃ q r, r < 8 ∧ p = 8 * q + r := ⟨p / 8, p % 8, Nat.mod_lt _ (by decide), (Nat.div_add_mod p 8).symm⟩
  have h8 : r = 0 ∨ r = 1 ∨ r = 2 ∨ r = 3 ∨ r = 4 ∨ r = 5 ∨ r = 6 ∨ r = 7 := by omega
  rcases h8 with rfl | rfl | rfl | rfl | rfl | rfl | rfl | rfl
  · exact read_r0 h hk hfit
  · exact read_r1 h hk hfit
  · exact read_r2 h hk hfit
  · exact read_r3 h hk hfit
  · exact read_r4 h hk hfit
  · exact read_r5 h hk hfit
  · exact read_r6 h hk hfit
  · exact read_r7 h hk hfit
/-- The bits that stand ahead are read. -/
theorem SegW.ask {w0 w : World} {base S D : Nat} {xs : List Nat} {p : Nat} {v : Value} {out : List Nat} (h : SegW w0 w base S D xs p v out) {k u : Nat} (hk : Ask k) (hA : Ahead (byteBits xs) p (vbits u k k)) (hu : u < 2 ^ k) :
    Calls Tryz.prog 227 #[ptv S, intc k] w fun e w' => e = .returned (.tuple #[intc u, .nilIface]) ∧ SegW w0 w' base S D xs (p + k) v out := by
  have hf := hA.fits (by intro e; have := congrArg List.length e; rw [vbits_length] at this; rcases hk with rfl | rfl | rfl | rfl | rfl | rfl | rfl <;> simp at this)
  rw [vbits_length, byteBits_len] at hf
  refine (read_c h.src hk hf).mono ?_
  rintro e w' ⟨rfl, hs, hkp⟩
  rw [hA.rd hu]
  exact ⟨rfl, h.read hs hkp⟩
end

section
theorem digits_3 {a b c : Nat} (ha : 48 ≤ a ∧ a ≤ 57) (hb : 48 ≤ b ∧ b ≤ 57) (hc : 48 ≤ c ∧ c ≤ 57) {u : Nat} (hu : (a - 48) * 100 + (b - 48) * 10 + (c - 48) = u) :
    u < 1000 ∧ (48 : Int) + (u : Int) / 100 = a ∧ (48 : Int) + (u : Int) / 10 % 10 = b ∧ (48 : Int) + (u : Int) % 10 = c := by omega
theorem digits_2 {a b : Nat} (ha : 48 ≤ a ∧ a ≤ 57) (hb : 48 ≤ b ∧ b ≤ 57) {u : Nat} (hu : (a - 48) * 10 + (b - 48) = u) : u < 100 ∧ (48 : Int) + (u : Int) / 10 = b - b + a ∧ (48 : Int) + (u : Int) % 10 = b := by omega
theorem dig_mem {cs : List Nat} (h : cs.all isDig = true) {a : Nat} (ha : a ∈ cs) : 48 ≤ a ∧ a ≤ 57 := by
  rw [List.all_eq_true] at h
  have := h a ha
  unfold isDig at this
  rw [Bool.and_eq_true, decide_eq_true_iff, decide_eq_true_iff] at this
  exact this
set_option maxRecDepth 100000 in
set_option maxHeartbeats 8000000 in
theorem decNum_c {w0 w : World} {base S D p0 : Nat} {xs out cs : List Nat} {v0 : Value} (h : SegW w0 w base S D xs p0 v0 out) (hd : cs.all isDig = true) (hA : Ahead (byteBits xs) p0 (numBits cs)) (hl : cs.length ≤ 100) (ho : out.length ≤ 100) :
    Calls Tryz.prog 232 #[ptv S, v0, intc cs.length] w fun e w' => ∃ v, e = .returned (.tuple #[v, .nilIface]) ∧ SegW w0 w' base S D xs (p0 + (numBits cs).length) v (out ++ cs) := by
  have hdm : ∀ a ∈ cs, 48 ≤ a ∧ a ≤ 57 := fun a ha => dig_mem hd ha
  have HD := Lib.hid hdm
  have HS := Lib.hid h
  have HAA := Lib.hid hA
  have HO := Lib.hid ho
  have HL := Lib.hid hl
  clear h hd hdm hA hl ho
  go_enter Tryz.func232, Tryz.ntmps232
  go_wp2_with fail
  go_loopw [1, 2] (fun s1 s2 wr => ∃ (ds dn : List Nat) (p : Nat) (v : Value) (n : Nat), v = s1 ∧ n = ds.length ∧ s2 = .int .i64 (n : Int) ∧ Hid (cs = dn ++ ds ∧ Ahead (byteBits xs) p (numBits ds) ∧ p + (numBits ds).length = p0 + (numBits cs).length ∧ SegW w0 wr base S D xs p v (out ++ dn))) (fun _ s _ => (intOf s).toNat)
  case atStart => exact ⟨cs, [], p0, _, cs.length, rfl, rfl, rfl, Lib.hid ⟨rfl, HAA.out, rfl, by rw [List.append_nil]; exact HS.out⟩⟩
  case round =>
    obtain ⟨ds, dn, p, v, n, rfl, hn, rfl, hst⟩ := hrel
    have HNL := Lib.hid hn
    have hn9 : n ≤ 100 := by
      have h1 := congrArg List.length hst.out.1
      have h2 := HL.out
      rw [List.length_append] at h1
      omega
    have n9 : (n : Int) ≤ 100 := by omega
    clear hn
    match ds, HNL, hst with
    | a :: b :: c :: r, HNL, hst =>
      obtain ⟨hcs, hAh, hpe, hsg⟩ := hst.out
      obtain ⟨u, hu⟩ : ∃ u, (a - 48) * 100 + (b - 48) * 10 + (c - 48) = u := ⟨_, rfl⟩
      have ma : a ∈ cs := by rw [hcs]; simp
      have mb : b ∈ cs := by rw [hcs]; simp
      have mc : c ∈ cs := by rw [hcs]; simp
      obtain ⟨u1, ea, eb, ec⟩ := digits_3 (HD.out a ma) (HD.out b mb) (HD.out c mc) hu
      have a9 : (a : Int) ≤ 57 := by have := HD.out a ma; omega
      have b9 : (b : Int) ≤ 57 := by have := HD.out b mb; omega
      have c9 : (c : Int) ≤ 57 := by have := HD.out c mc; omega
      have hb10 : numBits (a :: b :: c :: r) = vbits u 10 10 ++ numBits r := by rw [← hu]; rfl
      rw [hb10] at hAh hpe
      have HASK := Lib.hid (hsg.ask (k := 10) (u := u) (by unfold Ask; omega) hAh.left (by omega))
      have HAR := Lib.hid (by have := hAh.right; rw [vbits_length] at this; exact this)
      have hlen3 : dn.length + 3 ≤ 100 := by
        have h1 := congrArg List.length hcs
        have h2 := HL.out
        rw [List.length_append, List.length_cons, List.length_cons, List.length_cons] at h1
        omega
      have HPE : Hid (p + 10 + (numBits r).length = p0 + (numBits cs).length) := Lib.hid (by rw [← hpe, List.length_append, vbits_length]; omega)
      have HCS : Hid (cs = (dn ++ [a] ++ [b] ++ [c]) ++ r) := Lib.hid (by rw [hcs]; simp)
      have n3 : (3 : Int) ≤ n := by rw [HNL.out]; simp; omega
      have HN : Hid ((n : Int) - 3 = (r.length : Int)) := Lib.hid (by rw [HNL.out]; simp; omega)
      have u1i : (u : Int) < 1000 := by omega
      have HLN := Lib.hid hlen3
      clear hcs hAh hpe hsg hu ma mb mc hb10 hst hlen3
      go_wp2_with fail
      refine HASK.out.mono ?_
      rintro e w1 ⟨rfl, hsg⟩
      have HS1 := Lib.hid hsg
      clear hsg
      go_wp2_with (first | (at_builtin; refine app_one rfl _ _ 35 rfl 5 (.int .u8 0) 1 Tryz.underlying35 Ty.info5 rfl (by omega) base v (u8c a) ((out ++ dn).map u8c) rfl (HS1.out.own a) w1.heap.size rfl (SegW.cell w1 a) rfl HS1.out.len (HS1.out.loA a) ?_; intro v2 w2 hgr hkk; have HS2 := Lib.hid (HS1.out.app hgr hkk (by have := HLN.out; have := HO.out; simp only [List.length_append, List.length_singleton]; omega)); clear hgr hkk) | (at_builtin; refine app_one rfl _ _ 35 rfl 5 (.int .u8 0) 1 Tryz.underlying35 Ty.info5 rfl (by omega) base v2 (u8c b) ((out ++ dn ++ [a]).map u8c) rfl (HS2.out.own b) w2.heap.size rfl (SegW.cell w2 b) rfl HS2.out.len (HS2.out.loA b) ?_; intro v3 w3 hgr hkk; have HS3 := Lib.hid (HS2.out.app hgr hkk (by have := HLN.out; have := HO.out; simp only [List.length_append, List.length_singleton]; omega)); clear hgr hkk) | (at_builtin; refine app_one rfl _ _ 35 rfl 5 (.int .u8 0) 1 Tryz.underlying35 Ty.info5 rfl (by omega) base v3 (u8c c) ((out ++ dn ++ [a] ++ [b]).map u8c) rfl (HS3.out.own c) w3.heap.size rfl (SegW.cell w3 c) rfl HS3.out.len (HS3.out.loA c) ?_; intro v4 w4 hgr hkk; have HS4 := Lib.hid (HS3.out.app hgr hkk (by have := HLN.out; have := HO.out; simp only [List.length_append, List.length_singleton]; omega)); clear hgr hkk))
      go_roundw
      case rel => exact ⟨r, dn ++ [a] ++ [b] ++ [c], p + 10, v4, r.length, rfl, rfl, by rw [HN.out], Lib.hid ⟨HCS.out, HAR.out, HPE.out, by have := HS4.out; simp only [List.append_assoc] at this ⊢; exact this⟩⟩
      case measure => simp [intOf]; omega
    | [a, b], HNL, hst =>
      obtain ⟨hcs, hAh, hpe, hsg⟩ := hst.out
      obtain ⟨u, hu⟩ : ∃ u, (a - 48) * 10 + (b - 48) = u := ⟨_, rfl⟩
      have ma : a ∈ cs := by rw [hcs]; simp
      have mb : b ∈ cs := by rw [hcs]; simp
      have da := HD.out a ma
      have db := HD.out b mb
      have u1 : u < 100 := by omega
      have ea : (48 : Int) + (u : Int) / 10 = a := by omega
      have eb : (48 : Int) + (u : Int) % 10 = b := by omega
      have a9 : (a : Int) ≤ 57 := by omega
      have b9 : (b : Int) ≤ 57 := by omega
      have hb10 : numBits [a, b] = vbits u 7 7 := by rw [← hu]; rfl
      rw [hb10] at hAh hpe
      have HASK := Lib.hid (hsg.ask (k := 7) (u := u) (by unfold Ask; omega) hAh (by omega))
      have hlen3 : dn.length + 2 ≤ 100 := by
        have h1 := congrArg List.length hcs
        have h2 := HL.out
        rw [List.length_append] at h1
        simp only [List.length_cons, List.length_nil] at h1
        omega
      have HPE : Hid (p + 7 = p0 + (numBits cs).length) := Lib.hid (by rw [← hpe, vbits_length])
      have HCS : Hid (cs = dn ++ [a] ++ [b]) := Lib.hid (by rw [hcs]; simp)
      obtain rfl : n = 2 := HNL.out
      have u1i : (u : Int) < 100 := by omega
      have HLN := Lib.hid hlen3
      clear hcs hAh hpe hsg hu ma da mb db hb10 hst hlen3
      go_wp2_with fail
      refine HASK.out.mono ?_
      rintro e w1 ⟨rfl, hsg⟩
      have HS1 := Lib.hid hsg
      clear hsg
      go_wp2_with (first | (at_builtin; refine app_one rfl _ _ 35 rfl 5 (.int .u8 0) 1 Tryz.underlying35 Ty.info5 rfl (by omega) base v (u8c a) ((out ++ dn).map u8c) rfl (HS1.out.own a) w1.heap.size rfl (SegW.cell w1 a) rfl HS1.out.len (HS1.out.loA a) ?_; intro v2 w2 hgr hkk; have HS2 := Lib.hid (HS1.out.app hgr hkk (by have := HLN.out; have := HO.out; simp only [List.length_append, List.length_singleton]; omega)); clear hgr hkk) | (at_builtin; refine app_one rfl _ _ 35 rfl 5 (.int .u8 0) 1 Tryz.underlying35 Ty.info5 rfl (by omega) base v2 (u8c b) ((out ++ dn ++ [a]).map u8c) rfl (HS2.out.own b) w2.heap.size rfl (SegW.cell w2 b) rfl HS2.out.len (HS2.out.loA b) ?_; intro v3 w3 hgr hkk; have HS3 := Lib.hid (HS2.out.app hgr hkk (by have := HLN.out; have := HO.out; simp only [List.length_append, List.length_singleton]; omega)); clear hgr hkk))
      go_ret2
      exact ⟨v3, rfl, by have := HS3.out; rw [HPE.out] at this; rw [show out ++ cs = out ++ dn ++ [a] ++ [b] by rw [HCS.out]; simp]; exact this⟩
    | [a], HNL, hst =>
      obtain ⟨hcs, hAh, hpe, hsg⟩ := hst.out
      obtain ⟨u, hu⟩ : ∃ u, a - 48 = u := ⟨_, rfl⟩
      have ma : a ∈ cs := by rw [hcs]; simp
      have da := HD.out a ma
      have u1 : u < 10 := by omega
      have ea : (48 : Int) + (u : Int) = a := by omega
      have a9 : (a : Int) ≤ 57 := by omega
      have hb10 : numBits [a] = vbits u 4 4 := hu ▸ rfl
      rw [hb10] at hAh hpe
      have HASK := Lib.hid (hsg.ask (k := 4) (u := u) (by unfold Ask; omega) hAh (by omega))
      have hlen3 : dn.length + 1 ≤ 100 := by
        have h1 := congrArg List.length hcs
        have h2 := HL.out
        rw [List.length_append] at h1
        simp only [List.length_cons, List.length_nil] at h1
        omega
      have HPE : Hid (p + 4 = p0 + (numBits cs).length) := Lib.hid (by rw [← hpe, vbits_length])
      have HCS : Hid (cs = dn ++ [a]) := Lib.hid (hcs)
      obtain rfl : n = 1 := HNL.out
      have u1i : (u : Int) < 10 := by omega
      have HLN := Lib.hid hlen3
      clear hcs hAh hpe hsg hu ma da hb10 hst hlen3
      go_wp2_with fail
      refine HASK.out.mono ?_
      rintro e w1 ⟨rfl, hsg⟩
      have HS1 := Lib.hid hsg
      clear hsg
      go_wp2_with (first | (at_builtin; refine app_one rfl _ _ 35 rfl 5 (.int .u8 0) 1 Tryz.underlying35 Ty.info5 rfl (by omega) base v (u8c a) ((out ++ dn).map u8c) rfl (HS1.out.own a) w1.heap.size rfl (SegW.cell w1 a) rfl HS1.out.len (HS1.out.loA a) ?_; intro v2 w2 hgr hkk; have HS2 := Lib.hid (HS1.out.app hgr hkk (by have := HLN.out; have := HO.out; simp only [List.length_append, List.length_singleton]; omega)); clear hgr hkk))
      go_ret2
      exact ⟨v2, rfl, by have := HS2.out; rw [HPE.out] at this; rw [show out ++ cs = out ++ dn ++ [a] by rw [HCS.out]; simp]; exact this⟩
    | [], HNL, hst =>
      obtain ⟨hcs, hAh, hpe, hsg⟩ := hst.out
      obtain rfl : n = 0 := HNL.out
      rw [List.append_nil] at hcs
      subst hcs
      rw [show (numBits []).length = 0 from rfl, Nat.add_zero] at hpe
      rw [hpe] at hsg
      have HS1 := Lib.hid hsg
      clear hAh hpe hsg hst HD HS HAA
      go_wp2_with fail
      go_ret2
      exact ⟨v, rfl, HS1.out⟩
end
end Go.Proofs.YtplpafbkalkchaaGreatDoor
