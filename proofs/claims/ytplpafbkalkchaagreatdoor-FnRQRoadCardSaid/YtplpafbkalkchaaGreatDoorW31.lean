/- Walks: a picture as a source of grays; the binarizers made. Walks: the arrays of a binarizer; a row of a source. -/
import Derived.Deep.CutRange
import Derived.Lib.SliceRun
import Derived.Test.YtplpafbkalkchaaGreatDoorW29
import Derived.Test.YtplpafbkalkchaaGreatDoorW17
namespace Go.Proofs.YtplpafbkalkchaaGreatDoor
open Go Go.RowKit Go.Proofs
set_option linter.all false

section
/-- Block S is a source of W columns and H rows; its grays gs stand in block D. -/
structure Src (w : World) (S W H D cap : Nat) (gs : List Nat) : Prop where
  self : Blk w S [.int .i64 (W : Int), .int .i64 (H : Int), .slice (some ⟨D, 0, none⟩) gs.length cap, .int .i64 (W : Int), .int .i64 (H : Int), .int .i64 0, .int .i64 0] 232
  data : ∃ rest, Blk w D (gs.map u8c ++ rest) 5
  len : gs.length = H * W
  lt : ∀ x ∈ gs, x < 256
  room : gs.length ≤ cap
theorem Src.kept {w w' : World} {S W H D cap : Nat} {gs : List Nat} {T : List Nat} (h : Src w S W H D cap gs) (hk : Kept T w w') (h1 : S ∉ T) (h2 : D ∉ T) : Src w' S W H D cap gs := by
  obtain ⟨rest, hd⟩ := h.data
  exact ⟨hk.blk h.self h1, ⟨rest, hk.blk hd h2⟩, h.len, h.lt, h.room⟩
theorem GR.at1 {w : World} {base : Nat} {e : TypeId} {v : Value} {xs : List Value} (h : GR w base e v xs) (hne : xs ≠ []) : ∃ g cap rest, v = .slice (some ⟨g, 0, none⟩) xs.length cap ∧ Blk w g (xs ++ rest) e ∧ xs.length ≤ cap := by
  obtain ⟨g, rest, h1, _, h3, _⟩ := h.open hne
  exact ⟨g, _, rest, h1, h3, by omega⟩
theorem fits_c (W H n : Nat) (hW : 1 ≤ W) (hH : 1 ≤ H) (hn : n = H * W) (hb : n ≤ 100000) (w : World) : Calls Tryz.prog 76 #[.int .i64 (W : Int), .int .i64 (H : Int), .int .i64 (n : Int)] w fun e w' => e = .returned (.bool true) ∧ w = w' := by
  have i1 : (0 : Int) < W := by omega
  have i2 : (0 : Int) < H := by omega
  have i0 : ¬ (W : Int) = 0 := by omega
  have i3 : (n : Int) ≤ 100000 := by omega
  have e1 : (n : Int) / (W : Int) = (H : Int) := by rw [hn]; have : H * W / W = H := Nat.mul_div_cancel _ (by omega); exact_mod_cast this
  have e2 : (n : Int) % (W : Int) = 0 := by rw [hn]; have : H * W % W = 0 := Nat.mul_mod_left _ _; exact_mod_cast this
  have i4 : (H : Int) ≤ 100000 := by
    have : H * 1 ≤ H * W := Nat.mul_le_mul_left _ hW
    omega
  clear hn
  go_enter Tryz.func76, Tryz.ntmps76
  go_wp2_with fail
  go_ret
  exact ⟨rfl, rfl⟩
theorem newSource_c (v : Value) (a : Option Addr) (l c : Nat) (hv : v = .slice a l c) (W H : Nat) (hW : W ≤ 1000) (hH : H ≤ 1000) (w : World) :
    Calls Tryz.prog 77 #[v, .int .i64 (W : Int), .int .i64 (H : Int), .int .i64 0, .int .i64 0, .int .i64 (W : Int), .int .i64 (H : Int), .bool false] w fun e w' =>
      e = .returned (.tuple #[.iface 228 (ptv w.heap.size), .nilIface]) ∧ Blk w' w.heap.size [.int .i64 (W : Int), .int .i64 (H : Int), v, .int .i64 (W : Int), .int .i64 (H : Int), .int .i64 0, .int .i64 0] 232 ∧ Kept [] w w' := by
  subst hv
  have i1 : (W : Int) ≤ 1000 := by omega
  have i2 : (H : Int) ≤ 1000 := by omega
  go_enter Tryz.func77, Tryz.ntmps77
  go_wp2_with fail
  go_ret2
  exact ⟨rfl, Blk.new _ _ _, (Kept.refl _ _).alloc _⟩
theorem srcWidth_c {w : World} {S W H D cap : Nat} {gs : List Nat} (h : Src w S W H D cap gs) : Calls Tryz.prog 331 #[ptv S] w fun e w' => e = .returned (.int .i64 (W : Int)) ∧ w = w' := by
  have h0 := h.self.at (i := 0) rfl
  clear h
  go_enter Tryz.func331, Tryz.ntmps331
  go_wp2_with fail
  go_ret
  exact ⟨rfl, rfl⟩
theorem srcHeight_c {w : World} {S W H D cap : Nat} {gs : List Nat} (h : Src w S W H D cap gs) : Calls Tryz.prog 328 #[ptv S] w fun e w' => e = .returned (.int .i64 (H : Int)) ∧ w = w' := by
  have h0 := h.self.at (i := 1) rfl
  clear h
  go_enter Tryz.func328, Tryz.ntmps328
  go_wp2_with fail
  go_ret
  exact ⟨rfl, rfl⟩
theorem srcMatrix_c {w : World} {S W H D cap : Nat} {gs : List Nat} (h : Src w S W H D cap gs) : Calls Tryz.prog 329 #[ptv S] w fun e w' => e = .returned (.slice (some ⟨D, 0, none⟩) gs.length cap) ∧ w = w' := by
  have h2 := h.self.at (i := 2) rfl
  have h3 := h.self.at (i := 3) rfl
  have h4 := h.self.at (i := 4) rfl
  have HS := Lib.hid h
  clear h
  go_enter Tryz.func329, Tryz.ntmps329
  go_wp2_with fail
  refine (srcWidth_c HS.out).mono ?_
  rintro e wx ⟨rfl, rfl⟩
  go_wp2_with fail
  refine (srcHeight_c HS.out).mono ?_
  rintro e wx ⟨rfl, rfl⟩
  go_wp2_with fail
  go_ret
  exact ⟨rfl, rfl⟩
set_option maxRecDepth 100000 in
theorem source_c {w : World} (v : Value) (gs : List Nat) (base : Nat) (hg : GR w base 5 v (gs.map u8c)) (W H : Nat) (hW : 1 ≤ W) (hH : 1 ≤ H) (hW9 : W ≤ 300) (hH9 : H ≤ 300) (hlen : gs.length = H * W) (hlt : ∀ x ∈ gs, x < 256) :
    Calls Tryz.prog 29 #[.int .i64 (W : Int), .int .i64 (H : Int), v, .bool false] w fun e w' =>
      (∃ S D cap, e = .returned (.tuple #[.iface 228 (ptv S), .bool true]) ∧ Src w' S W H D cap gs ∧ w.heap.size ≤ S ∧ w.heap.size ≤ D) ∧ Kept [] w w' := by
  have hcap : gs.length ≤ 90000 := by rw [hlen]; exact Nat.le_trans (Nat.mul_le_mul hH9 hW9) (by omega)
  have hpos : 1 ≤ gs.length := by rw [hlen]; exact Nat.mul_pos hH hW
  obtain ⟨g, cap, rest, rfl, hb⟩ := GR.at0 hg (by intro h; rw [List.map_eq_nil_iff] at h; rw [h] at hpos; simp at hpos)
  rw [List.length_map]
  have HL := Lib.hid hlen
  have HG := Lib.hid hg
  have HB := Lib.hid hb
  obtain ⟨n, hn⟩ : ∃ n, gs.length = n := ⟨_, rfl⟩
  have HN := Lib.hid hn
  rw [hn]
  have hn2 : n = H * W := by rw [← hn, hlen]
  rw [hn] at hcap hpos
  have HN2 := Lib.hid hn2
  have i1 : (n : Int) ≤ 90000 := by omega
  clear hlen hg hb hn hn2
  go_enter Tryz.func29, Tryz.ntmps29
  go_wp2_with fail
  refine (fits_c W H n hW hH HN2.out (by omega) w).mono ?_
  rintro e wx ⟨rfl, rfl⟩
  go_wp2_with (at_builtin; refine app_many rfl _ _ 35 rfl 5 (.int .u8 0) 1 Tryz.underlying35 Ty.info5 rfl (by omega) w.heap.size (.slice none 0 0) [] (gs.map u8c) rfl (GR.nil _ _ _) g 0 n cap rfl (by rw [List.length_map, HN.out]) (fun j y hj => by rw [Nat.zero_add]; exact HB.out.at (by rw [List.getElem?_append_left (by have := (List.getElem?_eq_some_iff.1 hj).1; exact this)]; exact hj)) (by intro y hy; simp at hy; obtain ⟨x, _, rfl⟩ := hy; rfl) (by simp; omega) (Nat.le_refl _) ?_; intro v' w7 hgr hk7)
  rw [List.nil_append] at hgr
  obtain ⟨D, cap', rest', rfl, hb', hcap'⟩ := GR.at1 hgr (by intro h; rw [List.map_eq_nil_iff] at h; have := HN.out; rw [h] at this; simp at this; omega)
  have hDlt := Lib.hid (hgr.own D (by simp [Value.ownBlock])).1
  have hk8 : Kept [] w w7 := hk7.trans (Kept.refl [] _) (by simp) |>.mono (by intro x hx; simp [Value.ownBlock] at hx)
  refine (newSource_c _ (some ⟨D, 0, none⟩) (gs.map u8c).length cap' rfl W H (by omega) (by omega) w7).mono ?_
  rintro e w8 ⟨rfl, hs, hk9⟩
  have HB' := Lib.hid hb'
  have HCAP : Hid (gs.length ≤ cap') := Lib.hid (by rw [List.length_map] at hcap'; exact hcap')
  clear hcap'
  have HS := Lib.hid hs
  clear hb' hs hgr
  go_wp2_with fail
  have hsz := hk8.size
  have hfin : ∀ n, Hid ((Src (w8.drewN n) w7.heap.size W H D cap' gs ∧ w.heap.size ≤ w7.heap.size ∧ w.heap.size ≤ D) ∧ Kept [] w (w8.drewN n)) := fun n => Lib.hid (by
    refine ⟨⟨⟨?_, ⟨rest', (hk9.blk HB'.out (by simp)).drewN n⟩, HL.out, hlt, HCAP.out⟩, hsz, hDlt.out⟩, (hk8.trans0 hk9).drewN n⟩
    have := HS.out.drewN n
    rw [List.length_map] at this
    exact this)
  go_quiet (fail)
  go_wp2_with fail
  go_ret2
  exact ⟨⟨_, D, cap', rfl, (hfin _).out.1⟩, (hfin _).out.2⟩
theorem newGlobal_c {w : World} (v : Value) (t : TypeId) (u : Value) (hv : v = .iface t u) : Calls Tryz.prog 30 #[v] w fun e w' => (∃ B L K, e = .returned (.iface 156 (ptv B)) ∧ Blk w' B [v, .slice L 0 0, slv K 32 32] 159 ∧
    Blk w' K (List.replicate 32 (.int .i64 0)) 3 ∧ w.heap.size ≤ B ∧ w.heap.size ≤ K) ∧ Kept [] w w' := by
  subst hv
  have hmk := mk_ints 32 32 32 32 rfl rfl (by omega) (by omega)
  go_enter Tryz.func30, Tryz.ntmps30
  go_wp2_with fail
  go_ret
  have hb1 := (Blk.new (w.alloc (.cells #[] 5)) (List.replicate 32 (.int .i64 0)) 3)
  have hb2 := hb1.alloc (.cells #[Value.iface t u, .slice (some ⟨w.heap.size, 0, none⟩) 0 0, slv (w.heap.size + 1) 32 32] 159)
  have hb3 := Blk.new ((w.alloc (.cells #[] 5)).alloc (.cells (List.replicate 32 (Value.int .i64 0)).toArray 3)) [Value.iface t u, .slice (some ⟨w.heap.size, 0, none⟩) 0 0, slv (w.heap.size + 1) 32 32] 159
  simp only [World.size_alloc] at hb2 hb3
  exact ⟨⟨w.heap.size + 1 + 1, _, w.heap.size + 1, rfl, hb3, hb2, by omega, by omega⟩, (((Kept.refl _ _).alloc _).alloc _).alloc _⟩
end

section
/-- copy from the middle of a row whose other cells may be anything. -/
theorem run_copy_part {P : Program} {dT sT ty elem : TypeId} (hu : P.underlying dT = some (.slice elem)) (hs : (P.info? elem).map (·.size) = some 1)
    {w : World} {g s : Nat} {cur src : List Value} {Tg Ts : TypeId} (hg : Blk w g cur Tg) (hsrc : Blk w s src Ts) (o so dLen dCap sLen sCap n : Nat)
    (hn : n = Nat.min sLen dLen) (hfit : o + n ≤ cur.length) (hsfit : so + n ≤ src.length) (h1 : ∀ v ∈ (src.drop so).take n, v.oneCell' = true) :
    ∃ w1, (Builtin.copy_ #[dT, sT] ty #[.slice (some ⟨g, o, none⟩) dLen dCap, .slice (some ⟨s, so, none⟩) sLen sCap]).run P w = .ok (goInt n) w1 ∧
      Blk w1 g (cur.take o ++ (src.drop so).take n ++ cur.drop (o + n)) Tg ∧ Kept [g] w w1 := by
  have hl : ((src.drop so).take n).length = n := by simp; omega
  refine ⟨w.setRow g (cur.take o ++ (src.drop so).take n ++ cur.drop (o + n)).toArray, ?_, ?_, Kept.of_setRow w g _⟩
  · have h := run_copy_row (P := P) w dT sT ty elem g o dLen dCap ⟨s, so, none⟩ sLen sCap cur.toArray Tg ((src.drop so).take n) hu hs hg (by rw [hl, hn])
      (fun j v hv => by
        have hj : j < n := by
          rcases Nat.lt_or_ge j n with h | h
          · exact h
          · rw [List.getElem?_eq_none (by omega)] at hv; cases hv
        rw [List.getElem?_take_of_lt hj, List.getElem?_drop] at hv
        rw [add_off]; exact hsrc.at hv)
      (by simp; omega) h1
    rw [h, hl]
  · exact setRow_heap w g cur.toArray _ Tg (0, 0) hg
/-- Block B is a binarizer over the source at S, with a row in L and 32 counts in K. -/
structure Bin (w : World) (B S L K W : Nat) : Prop where
  self : Blk w B [.iface 228 (ptv S), slv L W W, slv K 32 32] 159
  row : ∃ cs, Blk w L cs 5 ∧ cs.length = W
  ne1 : L ≠ B
  ne2 : K ≠ B
  ne3 : L ≠ K
set_option maxRecDepth 100000 in
set_option maxHeartbeats 2000000 in
theorem initArrays_c {w : World} {B S K W : Nat} {a : Option Addr} (h : Blk w B [.iface 228 (ptv S), .slice a 0 0, slv K 32 32] 159) (cs : List Value) (hK : Blk w K cs 3) (hl : cs.length = 32) (hne : K ≠ B) (hW : 1 ≤ W) (hW9 : W ≤ 300) :
    Calls Tryz.prog 316 #[ptv B, .int .i64 (W : Int)] w fun e w' => e = .returned (.tuple #[]) ∧ Bin w' B S w.heap.size K W ∧ Blk w' K (List.replicate 32 (.int .i64 0)) 3 ∧ Kept [B, K] w w' := by
  have i1 : (1 : Int) ≤ W := by omega
  have i2 : (W : Int) ≤ 300 := by omega
  have hmk := mk_bytes (W : Int) (W : Int) W W rfl rfl (by omega) (by omega)
  have h1 := h.at (i := 1) rfl
  have hf := h.free 1
  have hBlt := h.lt
  have hKlt := hK.lt
  have HB := Lib.hid h
  have HK := Lib.hid hK
  have HL := Lib.hid hl
  clear h hK hl
  go_enter Tryz.func316, Tryz.ntmps316
  go_wp2_with fail
  have b0 := (HB.out.set 1 (slv w.heap.size W W)).alloc (.cells (Array.replicate W (.int .u8 0)) 5)
  have b1 := (HK.out.set_other (a := ⟨B, 1, none⟩) (by simpa using hne.symm) (slv w.heap.size W W)).alloc (.cells (Array.replicate W (.int .u8 0)) 5)
  have b2 : Blk ((w.setCell ⟨B, 1, none⟩ (slv w.heap.size W W)).alloc (.cells (Array.replicate W (.int .u8 0)) 5)) w.heap.size (List.replicate W (.int .u8 0)) 5 := by
    have := Blk.new (w.setCell ⟨B, 1, none⟩ (slv w.heap.size W W)) (List.replicate W (.int .u8 0)) 5
    rw [World.size_setCell] at this
    rw [show (Array.replicate W (Value.int IntKind.u8 0)) = (List.replicate W (Value.int .u8 0)).toArray from by simp]
    exact this
  have k0 : Kept [B, K] w ((w.setCell ⟨B, 1, none⟩ (slv w.heap.size W W)).alloc (.cells (Array.replicate W (.int .u8 0)) 5)) := (((Kept.refl _ _).setCell (p := ⟨B, 1, none⟩) (.inl (by simp)) _)).alloc _
  generalize ((w.setCell ⟨B, 1, none⟩ (slv w.heap.size W W)).alloc (.cells (Array.replicate W (.int .u8 0)) 5)) = W0 at b0 b1 b2 k0 ⊢
  obtain ⟨L, hLd⟩ : ∃ L, w.heap.size = L := ⟨_, rfl⟩
  have HLD := Lib.hid hLd
  rw [hLd] at b0 b2
  have HB0 : Hid (Blk W0 B [.iface 228 (ptv S), slv L W W, slv K 32 32] 159) := Lib.hid b0
  have HB1 := Lib.hid b1
  have HB2 := Lib.hid b2
  clear hLd b0 b1 b2 h1 hf
  go_loopw [4] (fun s4 wr => ∃ k : Nat, k ≤ 32 ∧ s4 = .int .i64 (k : Int) ∧ Blk wr K (List.replicate k (.int .i64 0) ++ cs.drop k) 3 ∧ Kept [K] W0 wr) (fun s _ => (32 - intOf s).toNat)
  case atStart => exact ⟨0, by omega, rfl, by simpa using HB1.out, Kept.refl _ _⟩
  case round =>
    obtain ⟨k, hk, rfl, hb, hkp⟩ := hrel
    by_cases hlt : k < 32
    · have hi : (k : Int) < 32 := by omega
      have hlen : k < cs.length := by rw [HL.out]; exact hlt
      have c0 := hb.at (i := k) (v := cs[k]) (by rw [List.getElem?_append_right (by simp)]; simp [hlen])
      have cf := hb.free k
      have d2 := (hkp.blk HB0.out (by simpa using hne.symm)).at (i := 2) rfl
      have HX := Lib.hid hb
      have hset : (List.replicate k (Value.int .i64 0) ++ cs.drop k).set k (.int .i64 0) = List.replicate (k + 1) (.int .i64 0) ++ cs.drop (k + 1) := by
        rw [List.set_append, if_neg (by simp)]
        simp only [List.length_replicate, Nat.sub_self]
        rw [List.drop_eq_getElem_cons hlen, List.set_cons_zero, List.replicate_succ', List.append_assoc]; rfl
      have HS := Lib.hid hset
      clear hb hset
      go_wp2_with fail
      go_roundw
      case rel => exact ⟨k + 1, by omega, by go_num, by rw [← HS.out]; exact HX.out.set k _, hkp.setCell (by simp) _⟩
      case measure => simp [intOf]; omega
    · obtain rfl : k = 32 := by omega
      have hfin : Hid (Bin wr B S L K W) := Lib.hid ⟨hkp.blk HB0.out (by simpa using hne.symm), ⟨_, hkp.blk HB2.out (by have := HLD.out; simp; omega), by simp⟩, by have := HLD.out; omega, hne, by have := HLD.out; omega⟩
      have hz : Hid (Blk wr K (List.replicate 32 (.int .i64 0)) 3) := Lib.hid (by rw [List.drop_eq_nil_of_le (by rw [HL.out]; exact Nat.le_refl _), List.append_nil] at hb; exact hb)
      have hk9 : Hid (Kept [B, K] w wr) := Lib.hid (k0.trans hkp (by intro x hx _; simp at hx ⊢; exact .inr hx))
      clear hb
      go_wp2_with fail
      go_end0
      exact ⟨rfl, by rw [HLD.out]; exact hfin.out, hz.out, hk9.out⟩
set_option maxRecDepth 100000 in
set_option maxHeartbeats 2000000 in
theorem srcRow_c {w : World} {S W H D cap L : Nat} {gs : List Nat} (h : Src w S W H D cap gs) (hW : 1 ≤ W) (hW9 : W ≤ 300) (hH9 : H ≤ 300) (y : Nat) (hy : y < H) (cs : List Value) (hL : Blk w L cs 5) (hl : cs.length = W) :
    Calls Tryz.prog 330 #[ptv S, .int .i64 (y : Int), slv L W W] w fun e w' => e = .returned (.tuple #[slv L W W, .nilIface]) ∧ Blk w' L (((gs.drop (y * W)).take W).map u8c) 5 ∧ Kept [L] w w' := by
  obtain ⟨rest, hd⟩ := h.data
  have hfit : y * W + W ≤ gs.length := by rw [h.len, ← Nat.succ_mul]; exact Nat.mul_le_mul_right _ hy
  have hroom := h.room
  have hg9 : gs.length ≤ 90000 := by rw [h.len]; exact Nat.le_trans (Nat.mul_le_mul hH9 hW9) (by omega)
  have qT : ∀ (w : World) (a : Option Addr) (n c n' c' : Nat), (binOp .eql 35 (.slice a n c) (.slice none n' c')).run Tryz.prog w = .ok (.bool a.isNone) w := fun w a n c n' c' => Lib.run_eql_slice_nil w _ _ a n c n' c' Tryz.underlying35
  have e1 : ((gs.map u8c ++ rest).drop (y * W)).take W = ((gs.drop (y * W)).take W).map u8c := by
    rw [List.drop_append_of_le_length (by rw [List.length_map]; omega), List.take_append_of_le_length (by rw [List.length_drop, List.length_map]; omega), ← List.map_drop, ← List.map_take]
  have HCP := fun q : Nat => Lib.hid (run_copy_part (P := Tryz.prog) (dT := 35) (sT := 35) (ty := 3) (elem := 5) Tryz.underlying35 (by kernel_rfl) (hL.drewN q) (hd.drewN q) 0 (y * W) W W W (cap - y * W) W (by simp) (by rw [hl]; omega) (by simp; omega)
    (by rw [e1]; intro v hv; rw [List.mem_map] at hv; obtain ⟨x, _, rfl⟩ := hv; rfl))
  have c2 := h.self.at (i := 2) rfl
  have c3 := h.self.at (i := 3) rfl
  have c5 := h.self.at (i := 5) rfl
  have c6 := h.self.at (i := 6) rfl
  have i1 : (y : Int) < H := by omega
  have i2 : (H : Int) ≤ 300 := by omega
  have i3 : (W : Int) ≤ 300 := by omega
  have i4 : (1 : Int) ≤ W := by omega
  obtain ⟨o, ho⟩ : ∃ o, y * W = o := ⟨_, rfl⟩
  have hoi : (y : Int) * (W : Int) = (o : Int) := by rw [← ho]; simp
  rw [ho] at HCP e1 hfit
  have o1 : (o : Int) ≤ 90000 := by omega
  have o2 : o + W ≤ cap := by omega
  have HE1 := Lib.hid e1
  have HO := Lib.hid ho
  have HS := Lib.hid h
  clear h e1 ho
  go_enter Tryz.func330, Tryz.ntmps330
  go_wp2_with fail
  refine (srcHeight_c HS.out).mono ?_
  rintro e wx ⟨rfl, rfl⟩
  go_wp2_with fail
  refine (srcWidth_c HS.out).mono ?_
  rintro e wx ⟨rfl, rfl⟩
  go_wp2_with fail
  go_quiet (fail)
  obtain ⟨w1, hcp, hb1, hk1⟩ := (HCP nq).out
  go_wp2_with fail
  go_ret2
  refine ⟨rfl, ?_, ((Kept.refl [L] w).drewN nq).then hk1⟩
  have h9 := hb1
  have hd0 : cs.drop W = [] := List.drop_eq_nil_of_le (by rw [hl]; exact Nat.le_refl _)
  rw [HE1.out, List.take_zero, List.nil_append, Nat.zero_add, hd0, List.append_nil] at h9
  rw [HO.out]
  exact h9
end
end Go.Proofs.YtplpafbkalkchaaGreatDoor
