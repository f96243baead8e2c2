/- Walks: a text is read out of the data bytes. -/
import Derived.Test.YtplpafbkalkchaaGreatDoorW44
import Derived.Test.YtplpafbkalkchaaGreatDoorW29
namespace Go.Proofs.YtplpafbkalkchaaGreatDoor
open Go Go.RowKit Go.Proofs
set_option linter.all false

section
theorem newResult_c (A T : Nat) (s e : ByteArray) (sp : Option Addr) (sn sc : Nat) (x y z : Int) (h : T ≤ 300) (w : World) : Calls Tryz.prog 236 #[slv A T T, .string s, .slice sp sn sc, .string e, .int .i64 x, .int .i64 y, .int .i64 z] w fun q w' => q = .returned (ptv w.heap.size) ∧
    Blk w' w.heap.size [slv A T T, .int .i64 (8 * (T : Int)), .string s, .slice sp sn sc, .string e, .int .i64 0, .int .i64 0, .nilIface, .int .i64 y, .int .i64 x, .int .i64 z] 235 ∧ Kept [] w w' := by
  have h9 : (T : Int) ≤ 300 := by omega
  go_enter Tryz.func236, Tryz.ntmps236
  go_wp2_with fail
  go_ret
  exact ⟨rfl, Blk.new _ _ _, (Kept.refl _ _).alloc _⟩
/-- The rows of bytes that a text of bytes leaves: none, or one. -/
def Segs (w : World) (base : Nat) (v : Value) : Prop := (∃ p c, v = .slice p 0 c) ∨ ∃ (R n : Nat) (us : List Nat), (n = us.length ∧ n ≤ 100) ∧ GR w base 35 v [slv R n n] ∧ Blk w R (us.map u8c) 5 ∧ base ≤ R
theorem Segs.read {w w' : World} {base S : Nat} {v : Value} {us : List Value} (h : Segs w base v) (hS : Blk w S us 378) (hk : Kept [S] w w') : Segs w' base v := by
  rcases h with h | ⟨R, n, vs, hn, hg, hb, hl⟩
  · exact .inl h
  · exact .inr ⟨R, n, vs, hn, hg.keptT hk (fun x hx => by simp at hx; subst hx; exact .inl ⟨_, 378, hS, by decide⟩), hb.keptT hk (fun x hx => by simp at hx; subst hx; exact ⟨_, hS⟩) (by decide), hl⟩
/-- What a reading of a text needs: the three parts stand there, and the end. -/
structure Told (xs cs : List Nat) (m e : Nat) : Prop where
  mode : Ahead (byteBits xs) 0 (vbits m 4 4)
  count : Ahead (byteBits xs) 4 (vbits cs.length (cbits m) (cbits m))
  text : Ahead (byteBits xs) (4 + cbits m) (textBits m cs)
  num : m = 1 → cs.all isDig = true
  al : m = 2 → cs.all isAl = true
  three : m = 1 ∨ m = 2 ∨ m = 4
  place : e = 4 + cbits m + (textBits m cs).length
  stop : 8 * xs.length < e + 4 ∨ Ahead (byteBits xs) e (vbits 0 4 4)
  byte : ∀ c ∈ cs, c < 256
  some : cs ≠ []
  few : cs.length ≤ 100
def DecRes (w' : World) (A T l : Nat) (s : ByteArray) (base : Nat) (e : Ending) : Prop := ∃ Z z sv, e = .returned (.tuple #[ptv Z, .nilIface]) ∧ Blk w' Z [slv A T T, .int .i64 (8 * (T : Int)), .string s, sv, .string z, .int .i64 0, .int .i64 0, .nilIface, .int .i64 (-1), .int .i64 (-1), .int .i64 1] 235 ∧
  (sv = .slice none 0 0 ∨ ∃ (R n : Nat) (us : List Nat), (n = us.length ∧ n ≤ 100) ∧ GR w' base 35 sv [slv R n n] ∧ Blk w' R (us.map u8c) 5 ∧ base ≤ R) ∧ base ≤ Z
theorem rep_arr (n : Nat) (z : Value) : (List.replicate n z).toArray = Array.replicate n z := by simp
theorem text_1 (cs : List Nat) : textBits 1 cs = numBits cs := by unfold textBits; rw [if_pos rfl]
theorem text_2 (cs : List Nat) : textBits 2 cs = alphaBits cs := by unfold textBits; rw [if_neg (by decide), if_pos rfl]
theorem text_4 (cs : List Nat) : textBits 4 cs = byteBits cs := by unfold textBits; rw [if_neg (by decide), if_neg (by decide)]
theorem GR.slice0 {w : World} {base : Nat} {e : TypeId} {v : Value} (h : GR w base e v []) : ∃ p c, v = .slice p 0 c := by
  obtain ⟨_, ⟨h1, _⟩ | ⟨g, cap, cur, hv, _⟩⟩ := h
  · exact ⟨_, _, h1⟩
  · exact ⟨_, _, hv⟩
theorem SegW.ask2 {w0 w : World} {base S D : Nat} {xs : List Nat} {p : Nat} {v : Value} {out : List Nat} (h : SegW w0 w base S D xs p v out) {k u : Nat} (hk : Ask k) (hA : Ahead (byteBits xs) p (vbits u k k)) (hu : u < 2 ^ k) :
    Calls Tryz.prog 227 #[ptv S, intc k] w fun e w' => e = .returned (.tuple #[intc u, .nilIface]) ∧ SegW w0 w' base S D xs (p + k) v out ∧ Kept [S] w w' := by
  refine (h.src.ask hk hA hu).mono ?_
  rintro e w' ⟨rfl, hs, hkp⟩
  exact ⟨rfl, h.read hs hkp, hkp⟩
theorem new_row {w : World} {base e : Nat} {z : Value} {c : Nat} (hb : base ≤ w.heap.size) (hc : c ≤ 1000) : GR (w.alloc (.cells (Array.replicate c z) e)) base e (.slice (some ⟨w.heap.size, 0, none⟩) 0 c) [] := by
  have hbA := Blk.new w (List.replicate c z) e
  rw [show (List.replicate c z).toArray = Array.replicate c z from by simp] at hbA
  have := GR.mk (xs := []) (rest := List.replicate c z) hb (by simpa using hbA) (by simp; unfold maxLen; omega)
  simpa using this
set_option maxRecDepth 100000 in
set_option maxHeartbeats 8000000 in
theorem decodeText_c {w : World} {V N k l A e : Nat} {xs cs : List Nat} {m : Nat} {hv : Value} (hV : Ver w V N k) (hk9 : k ≤ 9) (hl : l < 4) (hA : Blk w A (xs.map u8c) 5) (hx : ∀ x ∈ xs, x < 256) (hf : xs.length ≤ 300) (hT : Told xs cs m e) :
    Calls Tryz.prog 199 #[slv A xs.length xs.length, ptv V, intc l, hv] w fun q w' => DecRes w' A xs.length l (textOf cs) w.heap.size q ∧ Kept [] w w' := by
  have HV := Lib.hid hV
  have HT := Lib.hid hT
  have HA := Lib.hid hA
  have HX := Lib.hid hx
  have HF := Lib.hid hf
  have hal := hA.lt
  obtain ⟨base, hbs⟩ : ∃ b, w.heap.size = b := ⟨_, rfl⟩
  have HBS := Lib.hid hbs
  have HAL : Hid (A < base) := Lib.hid (by omega)
  rw [hbs]
  clear hV hT hA hx hf hal
  go_enter Tryz.func199, Tryz.ntmps199
  go_wp2_with fail
  refine (bitSource_c HA.out HX.out HF.out).mono ?_
  rintro q w1 ⟨rfl, hb1, hk1⟩
  rw [hbs] at hb1 ⊢
  have HB1 := Lib.hid hb1
  have HK1 := Lib.hid hk1
  clear hb1 hk1 hbs
  have hz1 : base ≤ w1.heap.size := by have := HK1.out.size; have := HBS.out; omega
  have hmk := mk_bytes 0 50 0 50 rfl rfl (by omega) (by omega) w1
  have hr1 : GR (w1.alloc (.cells (Array.replicate 50 (.int .u8 0)) 5)) base 5 (.slice (some ⟨w1.heap.size, 0, none⟩) 0 50) [] := new_row hz1 (by omega)
  have hk2 : Kept [] w1 (w1.alloc (.cells (Array.replicate 50 (.int .u8 0)) 5)) := (Kept.refl _ _).alloc _
  have HB2 := Lib.hid (HB1.out.kept hk2 (by simp) (by simp))
  have HR2 := Lib.hid hr1
  have HK2 := Lib.hid (HK1.out.trans0 hk2)
  obtain ⟨R1, hR1⟩ : ∃ b, w1.heap.size = b := ⟨_, rfl⟩
  rw [hR1] at HR2 hmk
  have hz2 := hk2.size
  rw [hR1] at hz1
  clear hk2 hr1
  obtain ⟨w2, hw2⟩ : ∃ v, (w1.alloc (.cells (Array.replicate 50 (.int .u8 0)) 5)) = v := ⟨_, rfl⟩
  rw [rep_arr] at hmk
  rw [hw2] at hmk HB2 HR2 HK2 hz2
  have hmk2 : (Instr.makeSlice 38 (.int .i64 0) (.int .i64 1)).run Tryz.prog w2 = .ok (.slice (some ⟨w2.heap.size, 0, none⟩) 0 1) (w2.alloc (.cells (List.replicate 1 (Value.slice none 0 0)).toArray 35)) := mkslice Tryz.underlying38 info35 rfl (by omega) 0 1 0 1 rfl rfl (by omega) (by omega) w2
  rw [rep_arr] at hmk2
  have hr2 : GR (w2.alloc (.cells (Array.replicate 1 (Value.slice none 0 0)) 35)) base 35 (.slice (some ⟨w2.heap.size, 0, none⟩) 0 1) [] := new_row (by omega) (by omega)
  have hk3 : Kept [] w2 (w2.alloc (.cells (Array.replicate 1 (Value.slice none 0 0)) 35)) := (Kept.refl _ _).alloc _
  have HB3 := Lib.hid (HB2.out.kept hk3 (by simp) (by simp))
  have HR3 := Lib.hid (HR2.out.keeps0 hk3)
  have HS3 := Lib.hid hr2
  have HK3 := Lib.hid (HK2.out.trans0 hk3)
  obtain ⟨R2, hR2⟩ : ∃ b, w2.heap.size = b := ⟨_, rfl⟩
  obtain ⟨w3, hw3⟩ : ∃ v, (w2.alloc (.cells (Array.replicate 1 (Value.slice none 0 0)) 35)) = v := ⟨_, rfl⟩
  rw [hR2] at hmk2 HS3
  rw [hw3] at hmk2 HB3 HR3 HS3 HK3
  have HSG : Hid (SegW w w3 base base A xs 0 (.slice (some ⟨R1, 0, none⟩) 0 50) []) := Lib.hid ⟨HB3.out, by simpa using HR3.out, HK3.out.below (by have := HBS.out; omega) (by simp), by omega, HAL.out, by simp⟩
  clear hw2 hw3 hR1 hR2 hz1 hz2 hk3 hr2 HB1 HB2 HB3 HR2 HR3 HK1 HK2 HK3
  go_wp2_with fail
  go_loopw [11, 12, 13, 14, 16, 17, 18, 19, 20] (fun s11 s12 s13 s14 s16 s17 s18 s19 s20 wr => ∃ (v vs : Value) (p mm : Nat) (out : List Nat), v = s11 ∧ vs = s12 ∧ s13 = .int .i64 (-1) ∧ s14 = .int .i64 (-1) ∧ s16 = .pointer none ∧ s17 = .bool false ∧ s18 = .bool false ∧ s19 = .bool false ∧ s20 = .int .i64 (mm : Int) ∧ Hid (SegW w wr base base A xs p v out ∧ (mm = 0 → p = 0 ∧ out = [] ∧ GR wr base 35 vs []) ∧ (mm ≠ 0 → p = e ∧ out = cs ∧ Segs wr base vs))) (fun _ _ _ _ _ _ _ _ s _ => if intOf s = 0 then 1 else 0)
  case atStart => exact ⟨_, _, 0, 0, [], rfl, rfl, rfl, rfl, rfl, rfl, rfl, rfl, rfl, Lib.hid ⟨HSG.out, fun _ => ⟨rfl, rfl, HS3.out⟩, fun h => absurd rfl h⟩⟩
  case round =>
    obtain ⟨v, vs, p, mm, out, rfl, rfl, rfl, rfl, rfl, rfl, rfl, rfl, rfl, hst⟩ := hrel
    clear HSG HS3 hmk hmk2
    by_cases h0 : mm = 0
    · subst h0
      obtain ⟨hsg, ha, _⟩ := hst.out
      obtain ⟨rfl, rfl, hgs⟩ := ha rfl
      obtain ⟨tm, tc, tx, tn, ta, t3, tp, ts, tb, tso, te⟩ := HT.out
      have HSG := Lib.hid hsg
      have HGS := Lib.hid hgs
      obtain ⟨n, hn⟩ : ∃ n, cs.length = n := ⟨_, rfl⟩
      have HN := Lib.hid hn
      have hn9 : (n : Int) ≤ 100 := by omega
      have nu : n ≤ 100 := by omega
      have tf := te
      have hav : 4 ≤ 8 * xs.length := by have := tm.fits (by intro h; have := congrArg List.length h; rw [vbits_length] at this; simp at this); rw [vbits_length, byteBits_len] at this; omega
      obtain ⟨av, hav2⟩ : ∃ av, 8 * xs.length - 0 = av := ⟨_, rfl⟩
      have HAV : Hid (Calls Tryz.prog 226 #[ptv base] wr fun e w' => e = .returned (intc av) ∧ ∃ k, w' = wr.drewN k) := Lib.hid (by have := available_c hsg.src; rw [hav2] at this; exact this)
      have avi : ¬ (av : Int) < 4 := by omega
      have HTX := Lib.hid tx
      have HTP := Lib.hid tp
      have HTN := Lib.hid tn
      have HTA := Lib.hid ta
      have HTM := Lib.hid tm
      have HTC := Lib.hid tc
      clear hst ha hsg hgs hn hav hav2 tx tp tn ta tm tc ts
      rcases t3 with rfl | rfl | rfl
      · clear tf
        go_wp2_with fail
        refine HAV.out.mono ?_
        rintro q wa ⟨rfl, k1, rfl⟩
        have HS1 := Lib.hid (HSG.out.quiet ((Kept.refl [] wr).drewN k1))
        have HG1 := Lib.hid (HGS.out.keeps0 ((Kept.refl [] wr).drewN k1))
        generalize wr.drewN k1 = wa at HS1 HG1 ⊢
        have HASK := Lib.hid (HS1.out.ask2 (k := 4) (u := 1) (by unfold Ask; omega) HTM.out (by decide))
        go_wp2_with fail
        refine HASK.out.mono ?_
        rintro q wb ⟨rfl, hs2, hk2⟩
        have HG2 := Lib.hid (HG1.out.keptT hk2 (fun x hx => by simp at hx; subst hx; exact .inl ⟨_, 378, HS1.out.src.st, by decide⟩))
        have HS2 := Lib.hid hs2
        clear hs2 hk2 HASK
        go_wp2_with fail
        refine (modeFor1_c wb).mono ?_
        rintro q wx ⟨rfl, rfl⟩
        have HVb := Lib.hid (HV.out.kept (Kept.of_below (by rw [HBS.out]; exact HS2.out.kept)) (by simp))
        go_wp2_with fail
        refine (countBits_c HVb.out hk9 1 (by omega)).mono ?_
        rintro q wc2 ⟨rfl, hk3⟩
        have HS3 := Lib.hid (HS2.out.quiet hk3)
        have HG3 := Lib.hid (HG2.out.keeps0 hk3)
        clear hk3
        have HASK := Lib.hid (HS3.out.ask2 (k := 10) (u := n) (by unfold Ask; omega) (by have := HTC.out; rw [HN.out] at this; exact this) (by omega))
        rw [show cbits 1 = 10 from rfl]
        go_wp2_with fail
        refine HASK.out.mono ?_
        rintro q wd ⟨rfl, hs4, hk4⟩
        have HG4 := Lib.hid (HG3.out.keptT hk4 (fun x hx => by simp at hx; subst hx; exact .inl ⟨_, 378, HS3.out.src.st, by decide⟩))
        have HS4 := Lib.hid hs4
        clear hs4 hk4 HASK
        have htx : Ahead (byteBits xs) (0 + 4 + 10) (numBits cs) := by have := HTX.out; rw [text_1, show 4 + cbits 1 = 0 + 4 + 10 from rfl] at this; exact this
        have hep : e = 0 + 4 + 10 + (numBits cs).length := by have := HTP.out; rw [text_1, show 4 + cbits 1 = 0 + 4 + 10 from rfl] at this; exact this
        have HTX2 := Lib.hid htx
        have HEP := Lib.hid hep
        clear htx hep
        have HCA := Lib.hid (decNum_c HS4.out ((by first | exact HTN.out rfl | exact HTN.out trivial)) HTX2.out te (by simp))
        have hca := HCA.out
        rw [HN.out] at hca
        have HCC := Lib.hid hca
        clear hca HCA
        go_wp2_with fail
        refine HCC.out.mono ?_
        rintro q we ⟨v2, rfl, hs5⟩
        have HS5 := Lib.hid hs5
        have HV2 : Hid (∃ p c, vs = .slice p 0 c) := Lib.hid HG4.out.slice0
        clear hs5 HCC
        go_wp2_with fail
        go_roundw
        case rel => exact ⟨v2, vs, e, 1, cs, rfl, rfl, rfl, rfl, rfl, rfl, rfl, rfl, rfl, Lib.hid ⟨by rw [HEP.out]; exact HS5.out, fun h => absurd h (by decide), fun _ => ⟨rfl, rfl, .inl HV2.out⟩⟩⟩
        case measure => simp [intOf]
      · clear tf
        go_wp2_with fail
        refine HAV.out.mono ?_
        rintro q wa ⟨rfl, k1, rfl⟩
        have HS1 := Lib.hid (HSG.out.quiet ((Kept.refl [] wr).drewN k1))
        have HG1 := Lib.hid (HGS.out.keeps0 ((Kept.refl [] wr).drewN k1))
        generalize wr.drewN k1 = wa at HS1 HG1 ⊢
        have HASK := Lib.hid (HS1.out.ask2 (k := 4) (u := 2) (by unfold Ask; omega) HTM.out (by decide))
        go_wp2_with fail
        refine HASK.out.mono ?_
        rintro q wb ⟨rfl, hs2, hk2⟩
        have HG2 := Lib.hid (HG1.out.keptT hk2 (fun x hx => by simp at hx; subst hx; exact .inl ⟨_, 378, HS1.out.src.st, by decide⟩))
        have HS2 := Lib.hid hs2
        clear hs2 hk2 HASK
        go_wp2_with fail
        refine (modeFor2_c wb).mono ?_
        rintro q wx ⟨rfl, rfl⟩
        have HVb := Lib.hid (HV.out.kept (Kept.of_below (by rw [HBS.out]; exact HS2.out.kept)) (by simp))
        go_wp2_with fail
        refine (countBits_c HVb.out hk9 2 (by omega)).mono ?_
        rintro q wc2 ⟨rfl, hk3⟩
        have HS3 := Lib.hid (HS2.out.quiet hk3)
        have HG3 := Lib.hid (HG2.out.keeps0 hk3)
        clear hk3
        have HASK := Lib.hid (HS3.out.ask2 (k := 9) (u := n) (by unfold Ask; omega) (by have := HTC.out; rw [HN.out] at this; exact this) (by omega))
        rw [show cbits 2 = 9 from rfl]
        go_wp2_with fail
        refine HASK.out.mono ?_
        rintro q wd ⟨rfl, hs4, hk4⟩
        have HG4 := Lib.hid (HG3.out.keptT hk4 (fun x hx => by simp at hx; subst hx; exact .inl ⟨_, 378, HS3.out.src.st, by decide⟩))
        have HS4 := Lib.hid hs4
        clear hs4 hk4 HASK
        have htx : Ahead (byteBits xs) (0 + 4 + 9) (alphaBits cs) := by have := HTX.out; rw [text_2, show 4 + cbits 2 = 0 + 4 + 9 from rfl] at this; exact this
        have hep : e = 0 + 4 + 9 + (alphaBits cs).length := by have := HTP.out; rw [text_2, show 4 + cbits 2 = 0 + 4 + 9 from rfl] at this; exact this
        have HTX2 := Lib.hid htx
        have HEP := Lib.hid hep
        clear htx hep
        have HCA := Lib.hid (decAlpha_c HS4.out ((by first | exact HTA.out rfl | exact HTA.out trivial)) tb HTX2.out te (by simp))
        have hca := HCA.out
        rw [HN.out] at hca
        have HCC := Lib.hid hca
        clear hca HCA
        go_wp2_with fail
        refine HCC.out.mono ?_
        rintro q we ⟨v2, rfl, hs5⟩
        have HS5 := Lib.hid hs5
        have HV2 : Hid (∃ p c, vs = .slice p 0 c) := Lib.hid HG4.out.slice0
        clear hs5 HCC
        go_wp2_with fail
        go_roundw
        case rel => exact ⟨v2, vs, e, 2, cs, rfl, rfl, rfl, rfl, rfl, rfl, rfl, rfl, rfl, Lib.hid ⟨by rw [HEP.out]; exact HS5.out, fun h => absurd h (by decide), fun _ => ⟨rfl, rfl, .inl HV2.out⟩⟩⟩
        case measure => simp [intOf]
      · clear tf
        go_wp2_with fail
        refine HAV.out.mono ?_
        rintro q wa ⟨rfl, k1, rfl⟩
        have HS1 := Lib.hid (HSG.out.quiet ((Kept.refl [] wr).drewN k1))
        have HG1 := Lib.hid (HGS.out.keeps0 ((Kept.refl [] wr).drewN k1))
        generalize wr.drewN k1 = wa at HS1 HG1 ⊢
        have HASK := Lib.hid (HS1.out.ask2 (k := 4) (u := 4) (by unfold Ask; omega) HTM.out (by decide))
        go_wp2_with fail
        refine HASK.out.mono ?_
        rintro q wb ⟨rfl, hs2, hk2⟩
        have HG2 := Lib.hid (HG1.out.keptT hk2 (fun x hx => by simp at hx; subst hx; exact .inl ⟨_, 378, HS1.out.src.st, by decide⟩))
        have HS2 := Lib.hid hs2
        clear hs2 hk2 HASK
        go_wp2_with fail
        refine (modeFor4_c wb).mono ?_
        rintro q wx ⟨rfl, rfl⟩
        have HVb := Lib.hid (HV.out.kept (Kept.of_below (by rw [HBS.out]; exact HS2.out.kept)) (by simp))
        go_wp2_with fail
        refine (countBits_c HVb.out hk9 4 (by omega)).mono ?_
        rintro q wc2 ⟨rfl, hk3⟩
        have HS3 := Lib.hid (HS2.out.quiet hk3)
        have HG3 := Lib.hid (HG2.out.keeps0 hk3)
        clear hk3
        have HASK := Lib.hid (HS3.out.ask2 (k := 8) (u := n) (by unfold Ask; omega) (by have := HTC.out; rw [HN.out] at this; exact this) (by omega))
        rw [show cbits 4 = 8 from rfl]
        go_wp2_with fail
        refine HASK.out.mono ?_
        rintro q wd ⟨rfl, hs4, hk4⟩
        have HG4 := Lib.hid (HG3.out.keptT hk4 (fun x hx => by simp at hx; subst hx; exact .inl ⟨_, 378, HS3.out.src.st, by decide⟩))
        have HS4 := Lib.hid hs4
        clear hs4 hk4 HASK
        have htx : Ahead (byteBits xs) (0 + 4 + 8) (byteBits cs) := by have := HTX.out; rw [text_4, show 4 + cbits 4 = 0 + 4 + 8 from rfl] at this; exact this
        have hep : e = 0 + 4 + 8 + (byteBits cs).length := by have := HTP.out; rw [text_4, show 4 + cbits 4 = 0 + 4 + 8 from rfl] at this; exact this
        have HTX2 := Lib.hid htx
        have HEP := Lib.hid hep
        clear htx hep
        have HCA := Lib.hid (decBytes_c (pv := .pointer none) (hv := hv) HS4.out tb HTX2.out te tso HG4.out)
        have hca := HCA.out
        rw [HN.out] at hca
        have HCC := Lib.hid hca
        clear hca HCA
        go_wp2_with fail
        refine HCC.out.mono ?_
        rintro q we ⟨v2, vs2, R, rfl, hs5, hg5, hb5, hl5⟩
        have HS5 := Lib.hid hs5
        have HV2 : Hid (Segs we base vs2) := Lib.hid (.inr ⟨R, n, cs, ⟨HN.out.symm, nu⟩, hg5, hb5, hl5⟩)
        clear hs5 HCC hg5 hb5
        go_wp2_with fail
        go_roundw
        case rel => exact ⟨v2, vs2, e, 4, cs, rfl, rfl, rfl, rfl, rfl, rfl, rfl, rfl, rfl, Lib.hid ⟨by rw [HEP.out]; exact HS5.out, fun h => absurd h (by decide), fun _ => ⟨rfl, rfl, HV2.out⟩⟩⟩
        case measure => simp [intOf]
    · obtain ⟨hsg, _, ha⟩ := hst.out
      obtain ⟨rfl, rfl, hsv⟩ := ha h0
      have HSG := Lib.hid hsg
      obtain ⟨n, hn⟩ : ∃ n, out.length = n := ⟨_, rfl⟩
      have HN := Lib.hid hn
      obtain ⟨av, hav⟩ : ∃ av, 8 * xs.length - p = av := ⟨_, rfl⟩
      have HAV : Hid (Calls Tryz.prog 226 #[ptv base] wr fun e w' => e = .returned (intc av) ∧ ∃ k, w' = wr.drewN k) := Lib.hid (by have := available_c hsg.src; rw [hav] at this; exact this)
      have hst2 := HT.out.stop
      have hfit := hsg.src.fits
      obtain ⟨g, rest, hv1, hg, hbl, hml⟩ := hsg.row.open (by simpa using HT.out.some)
      rw [List.length_map, hn] at hv1
      obtain ⟨cap, hcap⟩ : ∃ c, n + rest.length = c := ⟨_, rfl⟩
      rw [hcap] at hv1
      subst hv1
      have HBL := Lib.hid hbl
      have HSV := Lib.hid hsv
      have HTB0 := HT.out.byte
      have tbx := Lib.hid HTB0
      have HST := Lib.hid hst2
      have HAVV := Lib.hid hav
      have HFIT := Lib.hid hfit
      clear hst ha hsg hsv hn hav hst2 hfit hbl HTB0 hml hcap
      by_cases h4 : av < 4
      · have avi : (av : Int) < 4 := by omega
        go_wp2_with fail
        refine HAV.out.mono ?_
        rintro q wa ⟨rfl, k1, rfl⟩
        have HS1 := Lib.hid (HSG.out.quiet ((Kept.refl [] wr).drewN k1))
        have HTB := Lib.hid (HBL.out.drewN k1)
        have HSV1 : Hid (Segs (wr.drewN k1) base vs) := Lib.hid HSV.out
        clear HSG HSV HBL HAV
        generalize wr.drewN k1 = wa at HS1 HTB HSV1 ⊢
        rcases HSV1.out with ⟨pp, cc, rfl⟩ | ⟨R, nR, us, hus, hgR, hbR, hlR⟩
        · clear HST
          have hcv := conv_text (w := wa.drew) HTB.out.drew tbx.out cap
          rw [HN.out] at hcv
          go_wp2_with fail
          go_region_with (first | (go_at_call 237; refine (levelName_c l hl _).mono ?_; rintro q wx ⟨⟨z, rfl⟩, rfl⟩) | (go_at_call 236; refine (newResult_c A xs.length _ _ _ _ _ _ _ _ HF.out _).mono ?_; rintro q wy ⟨rfl, hres, hkr⟩))
          all_goals go_wp2_with fail
          all_goals go_ret2
          all_goals exact ⟨⟨wa.drew.heap.size, z, _, rfl, hres, .inl rfl, HS1.out.lo⟩, ((Kept.of_below (by rw [HBS.out]; exact HS1.out.kept)).drew).trans0 hkr⟩
        · obtain ⟨g2, rest2, hv2, hg2, hbl2, hml2⟩ := hgR.open (by simp)
          simp only [List.length_singleton] at hv2
          obtain ⟨cap2, hcap2⟩ : ∃ c, 1 + rest2.length = c := ⟨_, rfl⟩
          rw [hcap2] at hv2
          subst hv2
          clear hbl2 hml2 hcap2
          have hcv := conv_text (w := wa.drew) HTB.out.drew tbx.out cap
          rw [HN.out] at hcv
          go_wp2_with fail
          go_region_with (first | (go_at_call 237; refine (levelName_c l hl _).mono ?_; rintro q wx ⟨⟨z, rfl⟩, rfl⟩) | (go_at_call 236; refine (newResult_c A xs.length _ _ _ _ _ _ _ _ HF.out _).mono ?_; rintro q wy ⟨rfl, hres, hkr⟩))
          all_goals go_wp2_with fail
          all_goals go_ret2
          all_goals exact ⟨⟨wa.drew.heap.size, z, _, rfl, hres, .inr ⟨R, nR, us, hus, hgR.keeps0 (((Kept.refl [] _).drew).trans0 hkr), (((Kept.refl [] _).drew).trans0 hkr).blk hbR (by simp), hlR⟩, HS1.out.lo⟩, ((Kept.of_below (by rw [HBS.out]; exact HS1.out.kept)).drew).trans0 hkr⟩
      · have HST2 : Hid (Ahead (byteBits xs) p (vbits 0 4 4)) := Lib.hid (HST.out.resolve_left (by have := HAVV.out; have := HFIT.out; omega))
        have avi : ¬ (av : Int) < 4 := by omega
        have h4b := HST2.out
        have HASK0 := Lib.hid h4b
        clear h4b
        go_wp2_with fail
        refine HAV.out.mono ?_
        rintro q wa ⟨rfl, k1, rfl⟩
        have HS0 := Lib.hid (HSG.out.quiet ((Kept.refl [] wr).drewN k1))
        have HTB0 := Lib.hid (HBL.out.drewN k1)
        have HSV0 : Hid (Segs (wr.drewN k1) base vs) := Lib.hid HSV.out
        clear HSG HSV HBL HAV
        generalize wr.drewN k1 = wa at HS0 HTB0 HSV0 ⊢
        have HASK := Lib.hid (HS0.out.ask2 (k := 4) (u := 0) (by unfold Ask; omega) HASK0.out (by decide))
        go_wp2_with fail
        refine HASK.out.mono ?_
        rintro q wb ⟨rfl, hs1, hk1⟩
        have HS1 := Lib.hid hs1
        have HTB := Lib.hid (HTB0.out.keptT hk1 (fun x hx => by simp at hx; subst hx; exact ⟨_, HS0.out.src.st⟩) (by decide))
        have HSV1 := Lib.hid (HSV0.out.read HS0.out.src.st hk1)
        clear hs1 hk1 HASK HASK0 HS0 HTB0 HSV0
        go_wp2_with fail
        refine (modeFor0_c wb).mono ?_
        rintro q wx ⟨rfl, rfl⟩
        rcases HSV1.out with ⟨pp, cc, rfl⟩ | ⟨R, nR, us, hus, hgR, hbR, hlR⟩
        · clear HST
          have hcv := conv_text (w := wb.drew) HTB.out.drew tbx.out cap
          rw [HN.out] at hcv
          go_wp2_with fail
          go_region_with (first | (go_at_call 237; refine (levelName_c l hl _).mono ?_; rintro q wx ⟨⟨z, rfl⟩, rfl⟩) | (go_at_call 236; refine (newResult_c A xs.length _ _ _ _ _ _ _ _ HF.out _).mono ?_; rintro q wy ⟨rfl, hres, hkr⟩))
          all_goals go_wp2_with fail
          all_goals go_ret2
          all_goals exact ⟨⟨wb.drew.heap.size, z, _, rfl, hres, .inl rfl, HS1.out.lo⟩, ((Kept.of_below (by rw [HBS.out]; exact HS1.out.kept)).drew).trans0 hkr⟩
        · obtain ⟨g2, rest2, hv2, hg2, hbl2, hml2⟩ := hgR.open (by simp)
          simp only [List.length_singleton] at hv2
          obtain ⟨cap2, hcap2⟩ : ∃ c, 1 + rest2.length = c := ⟨_, rfl⟩
          rw [hcap2] at hv2
          subst hv2
          clear hbl2 hml2 hcap2
          have hcv := conv_text (w := wb.drew) HTB.out.drew tbx.out cap
          rw [HN.out] at hcv
          go_wp2_with fail
          go_region_with (first | (go_at_call 237; refine (levelName_c l hl _).mono ?_; rintro q wx ⟨⟨z, rfl⟩, rfl⟩) | (go_at_call 236; refine (newResult_c A xs.length _ _ _ _ _ _ _ _ HF.out _).mono ?_; rintro q wy ⟨rfl, hres, hkr⟩))
          all_goals go_wp2_with fail
          all_goals go_ret2
          all_goals exact ⟨⟨wb.drew.heap.size, z, _, rfl, hres, .inr ⟨R, nR, us, hus, hgR.keeps0 (((Kept.refl [] _).drew).trans0 hkr), (((Kept.refl [] _).drew).trans0 hkr).blk hbR (by simp), hlR⟩, HS1.out.lo⟩, ((Kept.of_below (by rw [HBS.out]; exact HS1.out.kept)).drew).trans0 hkr⟩
end
end Go.Proofs.YtplpafbkalkchaaGreatDoor
