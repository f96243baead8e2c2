/- Walk: a text is written as rows. Plain laws: what was written is a symbol that is read as the text. Plain law: what was written is a symbol that is read as the text. -/
import Derived.Carry
import Derived.Test.YtplpafbkalkchaaGreatDoorW34
import Derived.Test.YtplpafbkalkchaaGreatDoorW48
import Derived.Test.YtplpafbkalkchaaGreatDoorW27
import Derived.Test.YtplpafbkalkchaaGreatDoorW28
namespace Go.Proofs.YtplpafbkalkchaaGreatDoor
open Go Go.RowKit Go.Proofs
set_option linter.all false

section
def setB (w : World) (r : Nat) (o : Obj) : World := { w with heap := w.heap.setIfInBounds r o }
theorem setB_at {w : World} {r : Nat} (h : r < w.heap.size) (o : Obj) : (setB w r o).heap[r]? = some o := by
  unfold setB; simp [h]
theorem setB_kept {w0 w : World} {S : List Nat} (hk : Kept S w0 w) {r : Nat} (hr : w0.heap.size ≤ r) (o : Obj) : Kept S w0 (setB w r o) := by
  refine ⟨hk.os, hk.tape, hk.output, by unfold setB; simp; exact hk.size, fun k hlt hn => ?_⟩
  unfold setB
  simp only [Array.getElem?_setIfInBounds]
  rw [if_neg (by omega)]; exact hk.block k hlt hn
theorem run_setMap {P : Program} {w : World} {m cl : Nat} {es : Array MapEntry} (h : w.heap[m]? = some (.map es cl)) (o : Obj) : (setObj m o).run P w = .ok () (setB w m o) := by
  simp [setObj, Sem.run, h, setB]
theorem hint_put {w : World} {m cl : Nat} {es : Array MapEntry} (h : w.heap[m]? = some (.map es cl)) (c : Int) (v : Value) (hr : Go.Instr.findNow (.int .i64) (.int .i64 c) es.toList 0 = some none) :
   (Go.Instr.mapUpdate 47 (.map (some m)) (.int .i64 c) v).run Tryz.prog w = .ok () (setB w m (.map (es.push { key := .int .i64 c, val := v, born := cl }) (cl + 1))) := by
  unfold Go.Instr.mapUpdate
  simp [go_sem, run_underlying Tryz.underlying47, run_getMap h, Result.andThen, hint_key c _ w 45 Tryz.underlying45, hint_find c w _ _ hr, run_setMap h]
theorem newWriter_c (w : World) : Calls Tryz.prog 13 #[] w fun e w' => (∃ a, e = .returned (.pointer (some a))) ∧ Kept [] w w' := by
  go_enter Tryz.func13, Tryz.ntmps13
  go_wp2_with fail
  go_ret
  exact ⟨⟨_, rfl⟩, (Kept.refl _ _).alloc _⟩
/-- The hints that the writer is given. -/
def hintsOf (l q : Nat) : Array MapEntry := #[{ key := .int .i64 0, val := .iface 46 (intc l), born := 0 }, { key := .int .i64 5, val := .iface 3 (intc q), born := 1 }]
theorem hints_no1 (l q : Nat) : Lacks (hintsOf l q) 1 := rfl
theorem hints_no10 (l q : Nat) : Lacks (hintsOf l q) 10 := rfl
theorem hints_no11 (l q : Nat) : Lacks (hintsOf l q) 11 := rfl
theorem hints_no12 (l q : Nat) : Lacks (hintsOf l q) 12 := rfl
theorem hints_zero (l q : Nat) : Holds (hintsOf l q) 0 (.iface 46 (intc l)) := ⟨0, rfl⟩
theorem hints_five (l q : Nat) : Holds (hintsOf l q) 5 (.iface 3 (intc q)) := ⟨1, rfl⟩
/-- What the writer has drawn. -/
structure Drawn (k l q A B W H : Nat) (s : ByteArray) (x m lp tp : Nat) (M : Nat → Nat → Int) (bits : List Bool) : Prop where
  mask : x < 8
  rows : ∃ rows, RowsFor (payload (k + 1) l s) (words (k + 1)) (nData (k + 1) l) (lev (k + 1) (lix l)).count (lev (k + 1) (lix l)).ec (lev (k + 1) (lix l)).count rows ∧
    bits = byteBits (ilv (rows.map (·.1)) (maxLens (words (k + 1)) (nData (k + 1) l) (lev (k + 1) (lix l)).count (lev (k + 1) (lix l)).count) ++ ilv (rows.map (·.2)) (lev (k + 1) (lix l)).ec)
  mat : M = (laid bits x (21 + 4 * k) (fixed (21 + 4 * k) k l x) (10 + 2 * k) 0).2
  shape : Shape (21 + 4 * k) q A B W H m lp tp
set_option maxRecDepth 100000 in
set_option maxHeartbeats 4000000 in
theorem qrWrite_c {w : World} (s : ByteArray) (h0 : 0 < s.size) (hs : s.size ≤ 200) (k l q A B : Nat) (hk7 : k < 7) (hl : l < 4) (hq : q ≤ 20) (hA : A ≤ 300) (hB : B ≤ 300)
    (hK : fits (k + 1) l (segBits s).length = true) (hlo : ∀ j, 1 ≤ j → j < k + 1 → fits j l (segBits s).length = false)
    (hall : ∀ bs : List Bool, bs.length = 8 * words (k + 1) → ∀ x, x < 8 → (laid bs x (21 + 4 * k) (fixed (21 + 4 * k) k l x) (10 + 2 * k) 0).1 = bs.length)
    (W H m lp tp : Nat) (sh : Shape (21 + 4 * k) q A B W H m lp tp) :
    Calls Tryz.prog 5 #[.string s, .int .i64 (A : Int), .int .i64 (B : Int), intc l, intc q] w fun e w' =>
      (∃ R x M bits, e = .returned (.tuple #[slv R H H, .bool true]) ∧ Drawn k l q A B W H s x m lp tp M bits ∧ BR w' R H W (picUp M (21 + 4 * k) lp tp m (21 + 4 * k) 0) ∧ w.heap.size ≤ R) ∧ Kept [] w w' := by
  have h1 : (w.alloc (.map #[] 0)).heap[w.heap.size]? = some (.map #[] 0) := by unfold World.alloc; simp
  have p1 := hint_put h1 0 (.iface 46 (intc l)) rfl
  have hz : (w.alloc (.map #[] 0)).heap.size = w.heap.size + 1 := by simp
  have h2 := setB_at (w := w.alloc (.map #[] 0)) (r := w.heap.size) (by omega) (.map ((#[] : Array MapEntry).push { key := .int .i64 0, val := .iface 46 (intc l), born := 0 }) (0 + 1))
  have k2 : Kept [] w (setB (w.alloc (.map #[] 0)) w.heap.size (.map ((#[] : Array MapEntry).push { key := .int .i64 0, val := .iface 46 (intc l), born := 0 }) (0 + 1))) := setB_kept ((Kept.refl _ _).alloc _) (Nat.le_refl _) _
  have z2 : Hid (w.heap.size < (setB (w.alloc (.map #[] 0)) w.heap.size (.map ((#[] : Array MapEntry).push { key := .int .i64 0, val := .iface 46 (intc l), born := 0 }) (0 + 1))).heap.size) := Lib.hid (by unfold setB; simp)
  clear hz
  have hmm := run_makeMap (P := Tryz.prog) 47 w
  generalize hw1 : setB (w.alloc (.map #[] 0)) w.heap.size (.map ((#[] : Array MapEntry).push { key := .int .i64 0, val := .iface 46 (intc l), born := 0 }) (0 + 1)) = w1 at p1 h2 k2 z2
  have p2 := hint_put h2 5 (.iface 3 (intc q)) rfl
  have h3 := setB_at z2.out (.map (((#[] : Array MapEntry).push { key := .int .i64 0, val := .iface 46 (intc l), born := 0 }).push { key := .int .i64 5, val := .iface 3 (intc q), born := 0 + 1 }) (0 + 1 + 1))
  have k3 : Kept [] w (setB w1 w.heap.size (.map (((#[] : Array MapEntry).push { key := .int .i64 0, val := .iface 46 (intc l), born := 0 }).push { key := .int .i64 5, val := .iface 3 (intc q), born := 0 + 1 }) (0 + 1 + 1))) := setB_kept k2 (Nat.le_refl _) _
  generalize hw2 : setB w1 w.heap.size (.map (((#[] : Array MapEntry).push { key := .int .i64 0, val := .iface 46 (intc l), born := 0 }).push { key := .int .i64 5, val := .iface 3 (intc q), born := 0 + 1 }) (0 + 1 + 1)) = w2 at p2 h3 k3
  have hM : HMap w2 w.heap.size (hintsOf l q) := ⟨_, h3⟩
  have HM := Lib.hid hM
  clear hw1 hw2 h1 h2 h3 hM
  go_enter Tryz.func5, Tryz.ntmps5
  go_wp2_with fail
  refine (newWriter_c w2).mono ?_
  rintro e w3 ⟨⟨ad, rfl⟩, k4⟩
  go_wp2_with fail
  refine (writer_c (HM.out.quiet k4) (hints_no1 l q) (hints_no12 l q) (hints_no10 l q) (hints_no11 l q) s h0 hs k l q A B hk7 hl hq hA hB (hints_zero l q) (hints_five l q) hK hlo hall W H m lp tp sh _).mono ?_
  rintro e w4 ⟨⟨G, C, x, M, bits, rfl, hd⟩, k5⟩
  obtain ⟨ws, hg⟩ := hd.pic
  have HD : Hid (Drawn k l q A B W H s x m lp tp M bits) := Lib.hid ⟨hd.mask, hd.rows, hd.mat, hd.shape⟩
  have hW4 : W ≤ 400 := by have := sh.sw; omega
  clear hall hlo hd p1 p2 hmm
  go_wp2_with fail
  refine (rowsOf_c hg hW4).mono ?_
  rintro e w5 ⟨rfl, hbr, k6⟩
  go_wp2_with fail
  go_ret2
  exact ⟨⟨w4.heap.size, x, M, bits, rfl, HD.out, hbr, by have := ((k3.trans0 k4).trans0 k5).size; omega⟩, ((k3.trans0 k4).trans0 k5).trans0 k6⟩
end

section
def partOk (k l : Nat) : Bool :=
  let e := lev k (lix l)
  let nB := e.count
  let short := (e.runs.getD 0 (0, 0)).2
  let ls := (e.runs.getD 0 (0, 0)).1
  levOk k (lix l) && decide (nData k l = short * nB + (nB - ls)) && decide (maxLens (words k) (nData k l) nB nB = if ls < nB then short + 1 else short) && ((List.range nB).all fun j => decide (dataLen (words k) (nData k l) nB j = if ls ≤ j then short + 1 else short))
theorem part_ok : ∀ k, k < 8 → 1 ≤ k → ∀ l, l < 4 → partOk k l = true := by decide +kernel
structure Parts (k l nB short ls ec : Nat) : Prop where
  runs : Runs (lev k (lix l)) nB short ls
  nb : nB ≤ 6
  s1 : 1 ≤ short
  s9 : short ≤ 120
  wds : words k = short * nB + (nB - ls) + ec * nB
  e1 : 1 ≤ ec
  e9 : ec < 30
  dat : nData k l = short * nB + (nB - ls)
  mx : maxLens (words k) (nData k l) nB nB = if ls < nB then short + 1 else short
  dl : ∀ j, j < nB → dataLen (words k) (nData k l) nB j = if ls ≤ j then short + 1 else short
theorem parts_of (k l : Nat) (hk : 1 ≤ k) (h7 : k ≤ 7) (hl : l < 4) : ∃ short ls, Parts k l (lev k (lix l)).count short ls (lev k (lix l)).ec := by
  have h := part_ok k (by omega) hk l hl
  unfold partOk levOk at h
  simp only [Bool.and_eq_true, decide_eq_true_iff, List.all_eq_true] at h
  obtain ⟨⟨⟨⟨⟨⟨⟨⟨⟨h1, h2⟩, h3⟩, h4⟩, h5⟩, h6⟩, h7⟩, h8⟩, h9⟩, h10⟩ := h
  exact ⟨_, _, runs_of h1, h2, h3, h4, h5, h6, h7, h8, h9, fun j hj => h10 j (List.mem_range.2 hj)⟩
theorem unm_all (f : Nat → Nat → Bool) (x n : Nat) {a b : Nat} (ha : a < n) (hb : b < n) : unm f x n n 0 a b = (f a b != maskBit x b a) := by
  unfold unm; rw [if_pos ⟨hb, .inl ha⟩]
theorem told_of (s : ByteArray) (n : Nat) (h0 : 0 < s.size) (hs : s.size ≤ 60) (hf : (segBits s).length ≤ 8 * n) (xs : List Nat) (hx : byteBits xs = filled n (segBits s)) (hxl : xs.length = n) :
    ∃ e, Told xs (chars s) (modeOf (chars s)) e := by
  obtain ⟨p1, p2, p3⟩ := seg_parts n s
  rw [← hx] at p1 p2 p3
  have hcl := chars_len s
  refine ⟨4 + cbits (modeOf (chars s)) + (textBits (modeOf (chars s)) (chars s)).length, p1, by rw [hcl]; exact p2, p3, fun h => modeOf_num h, fun h => modeOf_al h, modeOf_three _, rfl, ?_, ?_, ?_, by rw [hcl]; omega⟩
  · have hl : (segBits s).length = 4 + cbits (modeOf (chars s)) + (textBits (modeOf (chars s)) (chars s)).length := by rw [segBits_len, vbits_length]
    rcases Nat.lt_or_ge (8 * xs.length) ((segBits s).length + 4) with h | h
    · left; rw [← hl]; exact h
    · right
      rw [← hl, hx]
      have h1 := (filled_ahead n (segBits s)).right
      rw [Nat.zero_add, Nat.min_eq_left (by omega)] at h1
      simpa [vbits, List.range, List.range.loop] using h1
  · intro c hc
    unfold chars at hc
    obtain ⟨u, _, rfl⟩ := List.mem_map.1 hc
    exact u.toNat_lt
  · intro h
    rw [h] at hcl; simp at hcl; omega
end

section
theorem ilv_mem (rows : List (List Nat)) : ∀ m y, y ∈ ilv rows m → ∃ r ∈ rows, y ∈ r
  | 0, y, h => by simp [ilv] at h
  | m + 1, y, h => by
    have e : ilv rows (m + 1) = ilv rows m ++ colOf rows m := rfl
    rw [e] at h
    rcases List.mem_append.1 h with h | h
    · exact ilv_mem rows m y h
    · unfold colOf at h
      obtain ⟨r, hr, hy⟩ := List.mem_flatMap.1 h
      refine ⟨r, hr, ?_⟩
      cases e2 : r[m]? with
      | none => rw [e2] at hy; simp at hy
      | some z => rw [e2] at hy; simp at hy; subst hy; exact List.mem_of_getElem? e2
set_option maxRecDepth 1000000 in
theorem sym_of {k l q A B W H x m lp tp : Nat} {s : ByteArray} {M : Nat → Nat → Int} {bits : List Bool} (d : Drawn k l q A B W H s x m lp tp M bits) (h0 : 0 < s.size) (hs : s.size ≤ 60) (hk : k < 7) (hl : l < 4) (hft : fits (k + 1) l (segBits s).length = true) :
    ∃ mo e T nB short ls ec RB xs raw dl D L, Sym (within (fun y c => decide (M y c = 1)) (21 + 4 * k)) (21 + 4 * k) k (l * 8 + x) mo e T nB short ls ec RB xs (chars s) raw dl D L := by
  obtain ⟨hx8, ⟨rows, hrows, hbits⟩, hM, _⟩ := d
  obtain ⟨short, ls, pt⟩ := parts_of (k + 1) l (by omega) (by omega) hl
  have hlay := layOk_all (k + 1) (by omega) (by omega) l hl
  unfold layOk at hlay
  simp only [decide_eq_true_iff] at hlay
  obtain ⟨_, hT3, hDT, _, _, _, _, hoffs, _, hsum⟩ := hlay
  obtain ⟨nB, hnB⟩ : ∃ nB, (lev (k + 1) (lix l)).count = nB := ⟨_, rfl⟩
  obtain ⟨ec, hec⟩ : ∃ ec, (lev (k + 1) (lix l)).ec = ec := ⟨_, rfl⟩
  obtain ⟨nD, hnD⟩ : ∃ nD, nData (k + 1) l = nD := ⟨_, rfl⟩
  obtain ⟨T, hT⟩ : ∃ T, words (k + 1) = T := ⟨_, rfl⟩
  have pmx := pt.mx
  have pdl := pt.dl
  have pdat := pt.dat
  have pwd := pt.wds
  have prun := pt.runs
  have pnb := pt.nb
  have p1 := pt.s1
  have p9 := pt.s9
  have pe1 := pt.e1
  have pe9 := pt.e9
  simp only [hnB, hec, hnD, hT] at hrows hbits hsum hoffs pmx pdl pdat pwd prun pnb hDT hT3 pe1 pe9
  have hrl := hrows.1
  have hlen := code_len hrows hoffs hsum pmx
  rw [pmx] at hbits
  rw [← hbits] at hlen
  obtain ⟨raw, hraw⟩ : ∃ raw, ilv (rows.map (·.1)) (if ls < nB then short + 1 else short) ++ ilv (rows.map (·.2)) ec = raw := ⟨_, rfl⟩
  rw [hraw] at hbits
  have hrawl : raw.length = T := by rw [hbits, byteBits_len] at hlen; omega
  have hmem : ∀ r ∈ rows, ∃ j, j < nB ∧ r.1 = blockData (payload (k + 1) l s) T nD nB j ∧ Fine r.1 r.2 ec := by
    intro r hr
    obtain ⟨j, hj⟩ := List.mem_iff_getElem?.1 hr
    refine ⟨j, ?_, hrows.2 j r hj⟩
    rcases Nat.lt_or_ge j rows.length with h1 | h1
    · omega
    · rw [List.getElem?_eq_none h1] at hj; cases hj
  have hraw9 : ∀ y ∈ raw, y < 256 := by
    intro y hy
    rw [← hraw] at hy
    rcases List.mem_append.1 hy with hy | hy
    · obtain ⟨r, hr, hy⟩ := ilv_mem _ _ _ hy
      obtain ⟨r2, hr2, rfl⟩ := List.mem_map.1 hr
      obtain ⟨j, _, e, _⟩ := hmem r2 hr2
      rw [e] at hy
      exact bytesAt_lt _ _ _ y hy
    · obtain ⟨r, hr, hy⟩ := ilv_mem _ _ _ hy
      obtain ⟨r2, hr2, rfl⟩ := List.mem_map.1 hr
      obtain ⟨j, _, _, f⟩ := hmem r2 hr2
      exact f.lt y hy
  have hget : ∀ j, j < nB → rows[j]? = some (rows.getD j ([], [])) := fun j hj => by
    rw [List.getD_eq_getElem?_getD, List.getElem?_eq_getElem (by omega)]; rfl
  have hr1 : ∀ (j : Nat) (r : List Nat × List Nat), rows[j]? = some r → r.1.length = (if ls ≤ j then short + 1 else short) ∧ r.2.length = ec := by
    intro j r hr
    have hj : j < nB := by
      rcases Nat.lt_or_ge j rows.length with h1 | h1
      · omega
      · rw [List.getElem?_eq_none h1] at hr; cases hr
    obtain ⟨a, b⟩ := hrows.2 j r hr
    exact ⟨by rw [a]; unfold blockData; rw [bytesAt_len]; exact pdl j hj, b.len⟩
  obtain ⟨xs, hxs⟩ : ∃ xs, rows.flatMap (·.1) = xs := ⟨_, rfl⟩
  have hxd : xs = bytesAt (payload (k + 1) l s) 0 nD := by rw [← hxs]; exact rows_data hrows hoffs
  have hxl : xs.length = nD := by rw [hxd, bytesAt_len]
  have hcap := fits_cap hft
  rw [hnD] at hcap
  have hpl : (payload (k + 1) l s).length = 8 * nD := by unfold payload; rw [hnD]; exact filled_len nD _ hcap
  have hxb : byteBits xs = filled nD (segBits s) := by
    rw [hxd, byteBits_bytesAt _ _ (by omega), ← hpl, List.take_length]; unfold payload; rw [hnD]
  obtain ⟨e, htold⟩ := told_of s nD h0 hs hcap xs hxb hxl
  have hlx : (l * 8 + x) / 8 = l ∧ (l * 8 + x) % 8 = x := by omega
  have hsp : spare k < 8 := by unfold spare; split <;> omega
  have hbl : bits.length = 8 * words (k + 1) := by rw [hT]; exact hlen
  refine ⟨modeOf (chars s), e, T, nB, short, ls, ec, bits ++ List.replicate (spare k) false, xs, raw, fun j => if ls ≤ j then short + 1 else short, fun j => if j < nB then (rows.getD j ([], [])).1 else List.replicate (if ls ≤ j then short + 1 else short) 0, fun j => (rows.getD j ([], [])).2,
    ⟨hk, rfl, by omega, ?_, ?_, ?_, ?_, hT, ?_, hT3, ?_, by rw [hlx.1]; exact prun, by rw [hlx.1]; exact hec, pnb, p1, p9, pe1, pe9, ⟨hrawl, hraw9, pwd, fun _ => rfl, ?_, ?_, ?_, ?_, ?_, by omega⟩, htold⟩⟩
  · intro h6 i hi
    subst h6
    unfold within
    rw [decide_eq_true (by omega), Bool.true_and, hM]
    exact mat_version l x bits i hi
  · intro i hi
    have h1 := (mat_type k l x hk bits i hi).1
    have h2 : tcx i < 21 + 4 * k := Nat.lt_of_lt_of_le ((by decide : ∀ i, i < 15 → tcx i < 21) i hi) (by omega)
    unfold within
    rw [decide_eq_true h2, Bool.true_and, hM]
    exact h1
  · intro i hi
    have h1 := (mat_type k l x hk bits i hi).2
    have h2 : fx2 (21 + 4 * k) i < 21 + 4 * k := by unfold fx2; split <;> omega
    unfold within
    rw [decide_eq_true h2, Bool.true_and, hM]
    exact h1
  · rw [free_rdL, hlx.2, ← read_all k l hk bits hbl x]
    apply List.map_congr_left
    intro p hp
    have hpn : p.1 < 21 + 4 * k ∧ p.2 < 21 + 4 * k := by have := zig_bd (21 + 4 * k) (10 + 2 * k) (by omega) (by omega) p (List.mem_filter.1 hp).1; omega
    rw [unm_all _ _ _ hpn.2 hpn.1]
    unfold within
    rw [decide_eq_true hpn.1, Bool.true_and, hM]
  · rw [List.length_append, List.length_replicate, hlen]; omega
  · rw [hbits, ← hrawl]
    exact wordsOf_bytes raw hraw9 _ (by rw [List.length_replicate]; exact hsp)
  · intro j hj
    have h1 := parted (nD := short * nB + (nB - ls)) hrl prun.le rfl hr1 hraw.symm j _ (hget j hj)
    have h2 := (hr1 j _ (hget j hj)).1
    rw [h2] at h1
    show _ = (if j < nB then _ else _) ++ _
    rw [if_pos hj]
    exact h1
  · intro j hj
    show Fine (if j < nB then _ else _) _ ec
    rw [if_pos hj]
    exact (hrows.2 j _ (hget j hj)).2
  · intro j
    show (if j < nB then _ else _ : List Nat).length = _
    by_cases hj : j < nB
    · rw [if_pos hj]; exact (hr1 j _ (hget j hj)).1
    · rw [if_neg hj, List.length_replicate]
  · intro j y hy
    have hy2 : y ∈ (if j < nB then (rows.getD j ([], [])).1 else List.replicate (if ls ≤ j then short + 1 else short) 0) := hy
    by_cases hj : j < nB
    · rw [if_pos hj, (hrows.2 j _ (hget j hj)).1] at hy2
      exact bytesAt_lt _ _ _ y hy2
    · rw [if_neg hj] at hy2
      have := (List.mem_replicate.1 hy2).2
      omega
  · have e9 : rows = (List.range nB).map fun j => rows.getD j ([], []) := by
      apply List.ext_getElem
      · rw [List.length_map, List.length_range]; exact hrl
      · intro i h1 h2
        rw [List.getElem_map, List.getElem_range, List.getD_eq_getElem?_getD, List.getElem?_eq_getElem h1]; rfl
    rw [← hxs]
    conv => lhs; rw [e9]
    rw [List.flatMap_map]
    apply congrArg List.flatten
    apply List.map_congr_left
    intro j hj
    rw [List.mem_range] at hj
    show _ = if j < nB then _ else _
    rw [if_pos hj]
end
end Go.Proofs.YtplpafbkalkchaaGreatDoor
