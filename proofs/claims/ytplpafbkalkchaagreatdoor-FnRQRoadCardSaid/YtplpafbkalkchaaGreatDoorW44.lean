/- Walk: letters of the alphanumeric kind are read. Walk: bytes are read. -/
import Derived.Test.YtplpafbkalkchaaGreatDoorW43
import Derived.Test.YtplpafbkalkchaaGreatDoorW25
namespace Go.Proofs.YtplpafbkalkchaaGreatDoor
open Go Go.RowKit Go.Proofs
set_option linter.all false

section
theorem alpha_sym : ∀ n, (h : n < 45) → (ByteArray.mk #[48, 49, 50, 51, 52, 53, 54, 55, 56, 57, 65, 66, 67, 68, 69, 70, 71, 72, 73, 74, 75, 76, 77, 78, 79, 80, 81, 82, 83, 84, 85, 86, 87, 88, 89, 90, 32, 36, 37, 42, 43, 45, 46, 47, 58])[n].toNat = alphaList.getD n 0 := by decide
set_option maxRecDepth 100000 in
set_option maxHeartbeats 4000000 in
theorem alphaChar_c {w : World} {n : Nat} (h : n < 45) : Calls Tryz.prog 263 #[intc n] w fun e w' => e = .returned (.tuple #[.int .u8 ((alphaList.getD n 0 : Nat) : Int), .nilIface]) ∧ w = w' := by
  have hi : (n : Int) < 45 := by omega
  have hI : ∀ w : World, (Instr.index 9 (.string (ByteArray.mk #[48, 49, 50, 51, 52, 53, 54, 55, 56, 57, 65, 66, 67, 68, 69, 70, 71, 72, 73, 74, 75, 76, 77, 78, 79, 80, 81, 82, 83, 84, 85, 86, 87, 88, 89, 90, 32, 36, 37, 42, 43, 45, 46, 47, 58])) (.int .i64 (n : Int))).run Tryz.prog w = .ok (.int .u8 ((alphaList.getD n 0 : Nat) : Int)) w := by
    intro w
    rw [run_index_string w 9 _ .i64 (n : Int) Tryz.underlying9, dif_pos ⟨by omega, by show (n : Int) < 45; omega⟩]
    have := alpha_sym n h
    simp only [Int.toNat_natCast]
    rw [this]
  obtain ⟨z, hz⟩ : ∃ z, alphaList.getD n 0 = z := ⟨_, rfl⟩
  rw [hz] at hI ⊢
  clear hz
  go_enter Tryz.func263, Tryz.ntmps263
  go_wp2_with fail
  go_ret2
  exact ⟨rfl, rfl⟩
theorem GR.slice {w : World} {base : Nat} {e : TypeId} {v : Value} {xs : List Value} (h : GR w base e v xs) : ∃ p n c, v = .slice p n c := by
  obtain ⟨_, ⟨h1, _⟩ | ⟨g, cap, cur, hv, _⟩⟩ := h
  · exact ⟨_, _, _, h1⟩
  · exact ⟨_, _, _, hv⟩
theorem alpha_2 {x y u : Nat} (hx : x < 45) (hy : y < 45) (hu : x * 45 + y = u) : u < 2025 ∧ (u : Int) / 45 = x ∧ (u : Int) % 45 = y := by omega
set_option maxHeartbeats 8000000 in
set_option maxRecDepth 100000 in
theorem decAlpha_c {w0 w : World} {base S D p0 : Nat} {xs out cs : List Nat} {v0 : Value} (h : SegW w0 w base S D xs p0 v0 out) (hd : cs.all isAl = true) (hc : ∀ c ∈ cs, c < 256) (hA : Ahead (byteBits xs) p0 (alphaBits cs)) (hl : cs.length ≤ 100) (ho : out.length ≤ 100) :
    Calls Tryz.prog 233 #[ptv S, v0, intc cs.length, .bool false] w fun e w' => ∃ v, e = .returned (.tuple #[v, .nilIface]) ∧ SegW w0 w' base S D xs (p0 + (alphaBits cs).length) v (out ++ cs) := by
  have hdm : ∀ a ∈ cs, alphaList.getD (alphaCode a).toNat 0 = a ∧ (alphaCode a).toNat < 45 := fun a ha => alpha_back a (hc a ha) (by rw [List.all_eq_true] at hd; exact hd a ha)
  have HD := Lib.hid hdm
  have HS := Lib.hid h
  have HAA := Lib.hid hA
  have HO := Lib.hid ho
  have HL := Lib.hid hl
  obtain ⟨p1, n1, c1, hv1⟩ : ∃ p1 n1 c1, v0 = .slice p1 n1 c1 := GR.slice h.row
  clear h hd hc hdm hA hl ho
  subst hv1
  go_enter Tryz.func233, Tryz.ntmps233
  go_wp2_with fail
  go_loopw [1, 2] (fun s1 s2 wr => ∃ (ds dn : List Nat) (p : Nat) (v : Value) (n : Nat), v = s1 ∧ n = ds.length ∧ s2 = .int .i64 (n : Int) ∧ Hid (cs = dn ++ ds ∧ Ahead (byteBits xs) p (alphaBits ds) ∧ p + (alphaBits ds).length = p0 + (alphaBits cs).length ∧ SegW w0 wr base S D xs p v (out ++ dn))) (fun _ s _ => (intOf s).toNat)
  case atStart => exact ⟨cs, [], p0, _, cs.length, rfl, rfl, rfl, Lib.hid ⟨rfl, HAA.out, rfl, by rw [List.append_nil]; exact HS.out⟩⟩
  case round =>
    obtain ⟨ds, dn, p, v, n, rfl, hn, rfl, hst⟩ := hrel
    have HNL := Lib.hid hn
    have hn9 : n ≤ 100 := by
      have h1 := congrArg List.length hst.out.1
      have h2 := HL.out
      rw [List.length_append] at h1
      omega
    have n9 : (n : Int) ≤ 100 := by omega
    clear hn
    match ds, HNL, hst with
    | a :: b :: r, HNL, hst =>
      obtain ⟨hcs, hAh, hpe, hsg⟩ := hst.out
      have ma : a ∈ cs := by rw [hcs]; simp
      have mb : b ∈ cs := by rw [hcs]; simp
      obtain ⟨x, hx⟩ : ∃ x, (alphaCode a).toNat = x := ⟨_, rfl⟩
      obtain ⟨y, hy⟩ : ∃ y, (alphaCode b).toNat = y := ⟨_, rfl⟩
      have ha := HD.out a ma
      have hb := HD.out b mb
      rw [hx] at ha
      rw [hy] at hb
      have HEA := Lib.hid ha.1
      have HEB := Lib.hid hb.1
      have hxl := ha.2
      have hyl := hb.2
      obtain ⟨u, hu⟩ : ∃ u, x * 45 + y = u := ⟨_, rfl⟩
      obtain ⟨u1, ea, eb⟩ := alpha_2 hxl hyl hu
      have hb10 : alphaBits (a :: b :: r) = vbits u 11 11 ++ alphaBits r := by rw [← hu, ← hx, ← hy]; rfl
      rw [hb10] at hAh hpe
      have HASK := Lib.hid (hsg.ask (k := 11) (u := u) (by unfold Ask; omega) hAh.left (by omega))
      have HAR := Lib.hid (by have := hAh.right; rw [vbits_length] at this; exact this)
      have hlen3 : dn.length + 2 ≤ 100 := by
        have h1 := congrArg List.length hcs
        have h2 := HL.out
        rw [List.length_append, List.length_cons, List.length_cons] at h1
        omega
      have HPE : Hid (p + 11 + (alphaBits r).length = p0 + (alphaBits cs).length) := Lib.hid (by rw [← hpe, List.length_append, vbits_length]; omega)
      have HCS : Hid (cs = (dn ++ [a] ++ [b]) ++ r) := Lib.hid (by rw [hcs]; simp)
      have n3 : (1 : Int) < n := by rw [HNL.out]; simp; omega
      have HN : Hid ((n : Int) - 2 = (r.length : Int)) := Lib.hid (by rw [HNL.out]; simp; omega)
      have u1i : (u : Int) < 2025 := by omega
      have HLN := Lib.hid hlen3
      clear hcs hAh hpe hsg hu ma mb hb10 hst hlen3 hx hy ha hb
      go_wp2_with fail
      refine HASK.out.mono ?_
      rintro e w1 ⟨rfl, hsg⟩
      have HS1 := Lib.hid hsg
      clear hsg
      go_wp2_with fail
      refine (alphaChar_c hxl).mono ?_
      rintro e wx ⟨rfl, rfl⟩
      rw [HEA.out]
      go_wp2_with (first | (at_builtin; refine app_one rfl _ _ 35 rfl 5 (.int .u8 0) 1 Tryz.underlying35 Ty.info5 rfl (by omega) base v (u8c a) ((out ++ dn).map u8c) rfl (HS1.out.own a) w1.heap.size rfl (SegW.cell w1 a) rfl HS1.out.len (HS1.out.loA a) ?_; intro v2 w2 hgr hkk; have HS2 := Lib.hid (HS1.out.app hgr hkk (by have := HLN.out; have := HO.out; simp only [List.length_append, List.length_singleton]; omega)); clear hgr hkk))
      refine (alphaChar_c hyl).mono ?_
      rintro e wx ⟨rfl, rfl⟩
      rw [HEB.out]
      go_wp2_with (first | (at_builtin; refine app_one rfl _ _ 35 rfl 5 (.int .u8 0) 1 Tryz.underlying35 Ty.info5 rfl (by omega) base v2 (u8c b) ((out ++ dn ++ [a]).map u8c) rfl (HS2.out.own b) w2.heap.size rfl (SegW.cell w2 b) rfl HS2.out.len (HS2.out.loA b) ?_; intro v3 w3 hgr hkk; have HS3 := Lib.hid (HS2.out.app hgr hkk (by have := HLN.out; have := HO.out; simp only [List.length_append, List.length_singleton]; omega)); clear hgr hkk))
      go_roundw
      case rel => exact ⟨r, dn ++ [a] ++ [b], p + 11, v3, r.length, rfl, rfl, by rw [HN.out], Lib.hid ⟨HCS.out, HAR.out, HPE.out, by have := HS3.out; simp only [List.append_assoc] at this ⊢; exact this⟩⟩
      case measure => simp [intOf]; omega
    | [a], HNL, hst =>
      obtain ⟨hcs, hAh, hpe, hsg⟩ := hst.out
      have ma : a ∈ cs := by rw [hcs]; simp
      obtain ⟨x, hx⟩ : ∃ x, (alphaCode a).toNat = x := ⟨_, rfl⟩
      have ha := HD.out a ma
      rw [hx] at ha
      have HEA := Lib.hid ha.1
      have hxl := ha.2
      have hb10 : alphaBits [a] = vbits x 6 6 := by rw [← hx]; rfl
      rw [hb10] at hAh hpe
      have HASK := Lib.hid (hsg.ask (k := 6) (u := x) (by unfold Ask; omega) hAh (by omega))
      have hlen3 : dn.length + 1 ≤ 100 := by
        have h1 := congrArg List.length hcs
        have h2 := HL.out
        rw [List.length_append] at h1
        simp only [List.length_cons, List.length_nil] at h1
        omega
      have HPE : Hid (p + 6 = p0 + (alphaBits cs).length) := Lib.hid (by rw [← hpe, vbits_length])
      have HCS : Hid (cs = dn ++ [a]) := Lib.hid hcs
      obtain rfl : n = 1 := HNL.out
      have HLN := Lib.hid hlen3
      clear hcs hAh hpe hsg hx ma ha hb10 hst hlen3
      go_wp2_with fail
      refine HASK.out.mono ?_
      rintro e w1 ⟨rfl, hsg⟩
      have HS1 := Lib.hid hsg
      clear hsg
      go_wp2_with fail
      refine (alphaChar_c hxl).mono ?_
      rintro e wx ⟨rfl, rfl⟩
      rw [HEA.out]
      go_wp2_with (first | (at_builtin; refine app_one rfl _ _ 35 rfl 5 (.int .u8 0) 1 Tryz.underlying35 Ty.info5 rfl (by omega) base v (u8c a) ((out ++ dn).map u8c) rfl (HS1.out.own a) w1.heap.size rfl (SegW.cell w1 a) rfl HS1.out.len (HS1.out.loA a) ?_; intro v2 w2 hgr hkk; have HS2 := Lib.hid (HS1.out.app hgr hkk (by have := HLN.out; have := HO.out; simp only [List.length_append, List.length_singleton]; omega)); clear hgr hkk))
      go_ret2
      exact ⟨v2, rfl, by have := HS2.out; rw [HPE.out] at this; rw [show out ++ cs = out ++ dn ++ [a] by rw [HCS.out]; simp]; exact this⟩
    | [], HNL, hst =>
      obtain ⟨hcs, hAh, hpe, hsg⟩ := hst.out
      obtain rfl : n = 0 := HNL.out
      have HF := Lib.hid hsg
      have HPE := Lib.hid hpe
      have HCS := Lib.hid hcs
      clear hcs hAh hpe hsg hst
      go_wp2_with fail
      go_ret2
      exact ⟨v, rfl, by have := HF.out; rw [show p = p0 + (alphaBits cs).length from HPE.out] at this; rw [show cs = dn by rw [HCS.out, List.append_nil]]; rw [show dn = cs by rw [HCS.out, List.append_nil]] at this ⊢; exact this⟩
end

section
/-- The bits that stand ahead are read. -/
theorem BS.ask {w : World} {S D : Nat} {xs : List Nat} {p : Nat} (h : BS w S D xs p) {k u : Nat} (hk : Ask k) (hA : Ahead (byteBits xs) p (vbits u k k)) (hu : u < 2 ^ k) :
    Calls Tryz.prog 227 #[ptv S, intc k] w fun e w' => e = .returned (.tuple #[intc u, .nilIface]) ∧ BS w' S D xs (p + k) ∧ Kept [S] w w' := by
  have hf := hA.fits (by intro e; have := congrArg List.length e; rw [vbits_length] at this; rcases hk with rfl | rfl | rfl | rfl | rfl | rfl | rfl <;> simp at this)
  rw [vbits_length, byteBits_len] at hf
  refine (read_c h hk hf).mono ?_
  rintro e w' ⟨rfl, hs, hkp⟩
  rw [hA.rd hu]
  exact ⟨rfl, hs, hkp⟩
theorem SegW.apps {w0 w w7 : World} {base S D : Nat} {xs : List Nat} {p : Nat} {v v' : Value} {out us : List Nat} (h : SegW w0 w base S D xs p v out) (hg : GR w7 base 5 v' (out.map u8c ++ us.map u8c)) (hk : Kept v.ownBlock.toList w w7) (hf : out.length + us.length ≤ 300) :
    SegW w0 w7 base S D xs p v' (out ++ us) := by
  have ho := h.row.ownType
  refine ⟨h.src.kept hk (fun hx => ?_) (fun hx => ?_), by rw [List.map_append]; exact hg, h.kept.trans (hk.below h.lo (fun x hx => (ho x hx).1)), h.loS, h.loD, by rw [List.length_append]; omega⟩
  · obtain ⟨_, us, hu⟩ := ho S hx
    have := hu.type h.src.st; cases this
  · have := (ho D hx).1
    have := h.loD; omega
theorem set_done (dn : List Nat) (c : Nat) (m : Nat) : (dn.map u8c ++ List.replicate (m + 1) (Value.int .u8 0)).set dn.length (u8c c) = (dn ++ [c]).map u8c ++ List.replicate m (Value.int .u8 0) := by
  rw [List.set_append_right _ _ (by simp), List.length_map, Nat.sub_self, List.replicate_succ, List.set_cons_zero, List.map_append, List.append_assoc]; rfl
theorem GR.below {w w' : World} {base : Nat} {e : TypeId} {v : Value} {xs : List Value} (h : GR w base e v xs) {B : Nat} (hB : B ≤ base) : GR w B e v xs := by
  obtain ⟨h1, h2 | ⟨g, cap, cur, hv, hb, hr⟩⟩ := h
  · exact ⟨h1, .inl h2⟩
  · exact ⟨h1, .inr ⟨g, cap, cur, hv, by omega, hr⟩⟩
theorem info35 : (Tryz.prog.info? 35).map (fun i => (i.zero, i.size, i.bytes)) = some (some (.slice none 0 0), 1, 24) := by kernel_rfl
theorem SegW.seg {w0 w w7 : World} {base S D : Nat} {xs : List Nat} {p : Nat} {v vs u : Value} {out : List Nat} {ys : List Value} (h : SegW w0 w base S D xs p v out) (hg : GR w base 35 vs ys) (hk : Kept vs.ownBlock.toList (w.alloc (.cells #[u] 35)) w7) : SegW w0 w7 base S D xs p v out := by
  have hka : Kept [] w (w.alloc (.cells #[u] 35)) := (Kept.refl _ _).alloc _
  have h2 := h.quiet hka
  have ho := (hg.keeps0 hka).ownType
  refine ⟨h2.src.kept hk (fun hx => ?_) (fun hx => ?_), h2.row.keptT hk (fun x hx => .inl (by obtain ⟨_, us, hu⟩ := ho x hx; exact ⟨us, 35, hu, by decide⟩)), h2.kept.trans (hk.below h2.lo (fun x hx => (ho x hx).1)), h.loS, h.loD, h.few⟩
  · obtain ⟨_, us, hu⟩ := ho S hx
    have := hu.type h2.src.st; cases this
  · have := (ho D hx).1
    have := h.loD; omega
set_option maxRecDepth 100000 in
set_option maxHeartbeats 8000000 in
theorem decBytes_c {w0 w : World} {base S D p0 : Nat} {xs cs : List Nat} {v0 vs pv hv : Value} (h : SegW w0 w base S D xs p0 v0 []) (hc : ∀ c ∈ cs, c < 256) (hA : Ahead (byteBits xs) p0 (byteBits cs)) (hl : cs.length ≤ 100) (h1 : cs ≠ [])
    (hgs : GR w base 35 vs []) :
    Calls Tryz.prog 234 #[ptv S, v0, intc cs.length, pv, vs, hv] w fun e w' => ∃ v v2 R, e = .returned (.tuple #[v, v2, .nilIface]) ∧ SegW w0 w' base S D xs (p0 + (byteBits cs).length) v cs ∧ GR w' base 35 v2 [slv R cs.length cs.length] ∧ Blk w' R (cs.map u8c) 5 ∧ base ≤ R := by
  have hfit := hA.fits (by intro e; have := congrArg List.length e; rw [byteBits_len] at this; simp at this; exact h1 (List.eq_nil_of_length_eq_zero (by omega)))
  rw [byteBits_len, byteBits_len] at hfit
  obtain ⟨av, hav⟩ : ∃ av : Nat, 8 * xs.length - p0 = av := ⟨_, rfl⟩
  obtain ⟨n, hn⟩ : ∃ n, cs.length = n := ⟨_, rfl⟩
  have nav : ¬ (av : Int) < 8 * (n : Int) := by omega
  have n9 : (n : Int) ≤ 100 := by omega
  have n99 : n ≤ 100 := by omega
  have HAV : Hid (Calls Tryz.prog 226 #[ptv S] w fun e w' => e = .returned (intc av) ∧ ∃ k, w' = w.drewN k) := Lib.hid (by have := available_c h.src; rw [hav] at this; exact this)
  have HC := Lib.hid hc
  have HS := Lib.hid h
  have HAA := Lib.hid hA
  have HN := Lib.hid hn
  have HG := Lib.hid hgs
  rw [hn]
  clear h hc hA hl h1 hgs hfit hav hn
  go_enter Tryz.func234, Tryz.ntmps234
  go_wp2_with fail
  refine HAV.out.mono ?_
  rintro e w1 ⟨rfl, k1, rfl⟩
  have hk0 : Kept [] w (w.drewN k1) := (Kept.refl _ _).drewN k1
  have HS1 := Lib.hid (HS.out.quiet hk0)
  have HG1 := Lib.hid (HG.out.keeps0 hk0)
  clear hk0 HS HG HAV
  generalize w.drewN k1 = w1 at HS1 HG1 ⊢
  have hmk := mk_bytes (n : Int) (n : Int) n n rfl rfl (by omega) (by omega)
  have hbA := Blk.new w1 (List.replicate n (Value.int .u8 0)) 5
  rw [show (List.replicate n (Value.int .u8 0)).toArray = Array.replicate n (Value.int .u8 0) from by simp] at hbA
  have hkA : Kept [] w1 (w1.alloc (.cells (Array.replicate n (.int .u8 0)) 5)) := (Kept.refl _ _).alloc _
  obtain ⟨R, hR⟩ : ∃ A, w1.heap.size = A := ⟨_, rfl⟩
  have HRL := Lib.hid hR
  rw [hR] at hbA
  have HB := Lib.hid hbA
  have HS2 := Lib.hid (HS1.out.src.kept hkA (by simp) (by simp))
  have HK2 := Lib.hid hkA
  have HSR : Hid (R ≠ S ∧ S < R) := Lib.hid (by have := HS1.out.src.st.lt; omega)
  clear hbA hkA
  go_wp2_with fail
  clear hR hmk
  generalize (w1.alloc (.cells (Array.replicate n (.int .u8 0)) 5)) = w2 at HB HS2 HK2 ⊢
  go_loopw [16] (fun s1 wr => ∃ (ds dn : List Nat) (p m : Nat), m = dn.length ∧ s1 = .int .i64 (m : Int) ∧ Hid (cs = dn ++ ds ∧ Ahead (byteBits xs) p (byteBits ds) ∧ p + (byteBits ds).length = p0 + (byteBits cs).length ∧ BS wr S D xs p ∧ Kept [S] w1 wr ∧ Blk wr R (dn.map u8c ++ List.replicate ds.length (.int .u8 0)) 5)) (fun s _ => (n - intOf s).toNat)
  case atStart => exact ⟨cs, [], p0, 0, rfl, rfl, Lib.hid ⟨rfl, HAA.out, rfl, HS2.out, HK2.out.mono (by simp), by rw [HN.out]; exact HB.out⟩⟩
  case round =>
    obtain ⟨ds, dn, p, m, hm, rfl, hst⟩ := hrel
    have HM := Lib.hid hm
    clear hm
    match ds, hst with
    | c :: r, hst =>
      obtain ⟨hcs, hAh, hpe, hbs, hkp, hblk⟩ := hst.out
      have hc9 := HC.out c (by rw [hcs]; simp)
      have hcl := congrArg List.length hcs
      rw [HN.out, List.length_append, List.length_cons, ← HM.out] at hcl
      have mi : (m : Int) < n := by omega
      have ci : (c : Int) < 256 := by omega
      rw [byteBits_cons] at hAh hpe
      have HASK := Lib.hid (hbs.ask (k := 8) (u := c) (by unfold Ask; omega) hAh.left (by omega))
      have HAR := Lib.hid (by have := hAh.right; rw [vbits_length] at this; exact this)
      have HPE : Hid (p + 8 + (byteBits r).length = p0 + (byteBits cs).length) := Lib.hid (by rw [← hpe, List.length_append, vbits_length]; omega)
      have HCS : Hid (cs = (dn ++ [c]) ++ r) := Lib.hid (by rw [hcs]; simp)
      have HKP := Lib.hid hkp
      have HBL := Lib.hid hblk
      have HCL := Lib.hid hcl
      clear hcs hAh hpe hbs hkp hblk hst hcl hc9
      go_wp2_with fail
      refine HASK.out.mono ?_
      rintro e w3 ⟨rfl, hb3, hk3⟩
      have hblk3 := hk3.blk HBL.out (by simpa using HSR.out.1)
      have HB3 := Lib.hid hb3
      have HK3 := Lib.hid (HKP.out.then hk3)
      clear hb3 hk3
      have hcell : w3.cell? ⟨R, m, none⟩ = some (.int .u8 0) := hblk3.at (by rw [HM.out, List.getElem?_append_right (by simp)]; simp)
      have hfree := hblk3.free m
      have HB3L := Lib.hid hblk3
      clear hblk3
      go_wp2_with fail
      go_roundw
      case rel =>
        refine ⟨r, dn ++ [c], p + 8, m + 1, by simp [HM.out], rfl, Lib.hid ⟨HCS.out, HAR.out, HPE.out, ?_, ?_, ?_⟩⟩
        · exact HB3.out.kept ((Kept.refl [R] w3).setCell (by simp) _) (by simpa using fun e => HSR.out.1 e.symm) (by have := HS1.out.src.ar.lt; have := HRL.out; simp; omega)
        · exact HK3.out.setCell (.inr (by rw [HRL.out]; exact Nat.le_refl _)) _
        · have := HB3L.out.set m (u8c c)
          rw [HM.out, List.length_cons, set_done] at this
          rw [HM.out]
          exact this
      case measure => simp [intOf]; omega
    | [], hst =>
      obtain ⟨hcs, hAh, hpe, hbs, hkp, hblk⟩ := hst.out
      rw [List.append_nil] at hcs
      have hcl := HM.out
      rw [← hcs, HN.out] at hcl
      have hcl := hcl.symm
      subst hcl
      have hblk2 : Blk wr R (cs.map u8c) 5 := by rw [hcs]; simpa using hblk
      have hp2 : p = p0 + (byteBits cs).length := hpe
      subst hp2
      have hlR : R < wr.heap.size := hblk2.lt
      have HSw := Lib.hid (HS1.out.read hbs hkp)
      have HGs := Lib.hid (HG1.out.keptT hkp (fun x hx => by simp at hx; subst hx; exact .inl ⟨_, 378, HS1.out.src.st, by decide⟩))
      have HBL := Lib.hid hblk2
      have HLR := Lib.hid hlR
      have hbR : base ≤ R := by have := HS1.out.lo; have := HRL.out; omega
      have HBR := Lib.hid hbR
      clear hcs hAh hpe hbs hkp hblk hst hblk2 hlR hbR HAA HM
      have hRown : R ∉ v0.ownBlock.toList := fun hx => by have := (HS1.out.row.own R hx).2; have := HRL.out; omega
      have HRO := Lib.hid hRown
      clear hRown
      go_wp2_with (first
        | (at_builtin; refine app_many rfl _ _ 35 rfl 5 (.int .u8 0) 1 Tryz.underlying35 Ty.info5 rfl (by omega) base v0 [] (cs.map u8c) rfl HSw.out.row R 0 n n rfl (by rw [List.length_map]; exact HN.out) (fun j u hj => by rw [Nat.zero_add]; exact HBL.out.at hj) (by intro u hu; obtain ⟨z, _, rfl⟩ := List.mem_map.1 hu; rfl) (by simp; omega) HSw.out.lo ?_; intro v5 w5 hg5 hk5; have HS5 := Lib.hid (HSw.out.apps (us := cs) hg5 hk5 (by simp; rw [HN.out]; omega)); have HG5 := Lib.hid (HGs.out.keptT hk5 (fun x hx => .inl (by obtain ⟨_, us, hu⟩ := HSw.out.row.ownType x hx; exact ⟨us, 5, hu, by decide⟩))); have HB5 := Lib.hid (hk5.blk HBL.out HRO.out); clear hg5 hk5)
        | (at_builtin; refine app_one rfl _ _ 38 rfl 35 (.slice none 0 0) 24 Tryz.underlying38 info35 rfl (by omega) base vs (slv R n n) [] rfl (HG5.out.keeps0 ((Kept.refl _ _).alloc _)) w5.heap.size rfl ((Blk.new w5 [slv R n n] 35).at (i := 0) rfl) rfl (by simp) (by rw [World.size_alloc]; have := HS5.out.lo; omega) ?_; intro v6 w6 hg6 hk6; have HS6 := Lib.hid (HS5.out.seg HG5.out hk6); have HG6 := Lib.hid hg6; have HB6 := Lib.hid (hk6.blk (HB5.out.alloc _) (fun hx => by obtain ⟨_, us, hu⟩ := (HG5.out.keeps0 ((Kept.refl [] w5).alloc (.cells #[slv R n n] 35))).ownType R hx; have := hu.type (HB5.out.alloc (.cells #[slv R n n] 35)); cases this)); clear hg6 hk6))
      go_ret3
      exact ⟨v5, v6, rfl, by simpa using HS6.out, R, by simpa using HG6.out, HB6.out, HBR.out⟩
end
end Go.Proofs.YtplpafbkalkchaaGreatDoor
