/- Walks: the penalty of a mask; the choice of a mask. Look-ups in a map of hints; the cells of a code; an array of bits put behind another. Walk: a text is encoded as a code. Plain laws: a version that takes a short text is at most the seventh; the letters of alphanumeric text. No program in sight. -/
import Derived.Maps.Own
import Derived.Test.YtplpafbkalkchaaGreatDoorW20
import Derived.Test.YtplpafbkalkchaaGreatDoorW24
import Derived.Test.YtplpafbkalkchaaGreatDoorW16
import Derived.Test.YtplpafbkalkchaaGreatDoorW12
namespace Go.Proofs.YtplpafbkalkchaaGreatDoor
open Go Go.RowKit Go.Proofs
set_option linter.all false

section
set_option maxRecDepth 100000 in
theorem penalty_c {w : World} {B R n : Nat} {M : Nat → Nat → Int} (h : BM w B R n M) (hn : n ≤ 200) (hn1 : 1 ≤ n) :
    Calls Tryz.prog 123 #[ptv B] w fun e w' => (∃ p : Nat, p ≤ 200000000 ∧ e = .returned (intv p)) ∧ w = w' := by
  have H := Lib.hid h; clear h
  go_enter Tryz.func123, Tryz.ntmps123
  go_wp2_with fail
  refine (pen1_c H.out hn).mono ?_
  rintro e w1 ⟨⟨p1, h1, rfl⟩, rfl⟩
  have i1 : (p1 : Int) ≤ 80000000 := by omega
  go_wp2_with fail
  refine (pen2_c H.out hn hn1).mono ?_
  rintro e w1 ⟨⟨p2, h2, rfl⟩, rfl⟩
  have i2 : (p2 : Int) ≤ 10000000 := by omega
  go_wp2_with fail
  refine (pen3_c H.out hn hn1).mono ?_
  rintro e w1 ⟨⟨p3, h3, rfl⟩, rfl⟩
  have i3 : (p3 : Int) ≤ 10000000 := by omega
  go_wp2_with fail
  refine (pen4_c H.out hn hn1).mono ?_
  rintro e w1 ⟨⟨p4, h4, rfl⟩, rfl⟩
  have i4 : (p4 : Int) ≤ 10000000 := by omega
  go_wp2_with fail
  go_ret
  exact ⟨⟨p1 + p2 + p3 + p4, by omega, by congr 1⟩, rfl⟩
/-- What stands for the best mask so far: none yet, or one below 8. -/
def bestSo (i : Nat) (mn bm : Int) : Prop := (i = 0 ∧ mn = 2147483647 ∧ bm = -1) ∨ (∃ b : Nat, b < 8 ∧ bm = b)
set_option maxRecDepth 100000 in
set_option maxHeartbeats 4000000 in
theorem chooseMask_c {w : World} {B R n V N K B2 C2 : Nat} {M : Nat → Nat → Int} {ws : List Nat} {bs : List Bool} (h : BM w B R n M) (hV : Ver w V N (K + 1)) (ha : BA w B2 C2 ws bs) (hVR : V < R) (hK7 : K < 7) (hn : n = 21 + 4 * K)
    (l : Nat) (hl : l < 4) (hall : ∀ m, m < 8 → (laid bs m n (fixed n K l m) (10 + 2 * K) 0).1 = bs.length) :
    Calls Tryz.prog 66 #[ptv B2, .int .i64 (l : Int), ptv V, ptv B] w fun e w' => (∃ m, m < 8 ∧ e = .returned (.tuple #[intv m, .nilIface])) ∧ (∃ M', BM w' B R n M') ∧ Kept (span (R + 1) n) w w' := by
  have hn20 : 20 ≤ n := by omega
  have hn200 : n ≤ 200 := by omega
  have HN := Lib.hid hn
  have hlt0 := h.lt
  have hV1 : ∀ x ∈ span (R + 1) n, x < N ∨ V < x := by have := hV.lt; intro x hx; rw [mem_span] at hx; omega
  have HV1 := Lib.hid hV1
  clear hn hV1
  have HA := Lib.hid hall
  clear hall
  go_enter Tryz.func66, Tryz.ntmps66
  go_wp2_with fail
  go_loopw [10, 11, 12] (fun a b c wr => ∃ (mn bm : Int) (i : Nat), i ≤ 8 ∧ a = .int .i64 mn ∧ b = .int .i64 bm ∧ c = intv i ∧ bestSo i mn bm ∧ (∃ M', BM wr B R n M') ∧ Kept (span (R + 1) n) w wr ∧ BA wr B2 C2 ws bs) (fun _ _ a _ => 8 - (intOf a).toNat)
  case atStart => exact ⟨2147483647, -1, 0, by omega, rfl, rfl, rfl, .inl ⟨rfl, rfl, rfl⟩, ⟨M, h⟩, Kept.refl _ _, ha⟩
  case round =>
    obtain ⟨mn, bm, i, hi, rfl, rfl, rfl, hbest, ⟨M1, hb⟩, hkp, hab⟩ := hrel
    have HB := Lib.hid hbest; clear hbest
    have hi9 : (i : Int) ≤ 8 := by omega
    by_cases hlt : i < 8
    · go_wp2_with fail
      refine (build_c hb (hV.kept hkp HV1.out) hab hVR hK7 HN.out l i hl hlt (HA.out i hlt)).mono ?_
      rintro e w1 ⟨rfl, hb1, hk1⟩
      have ha1 := BA.kept hab hk1 (BA.apart hb hab).1 (BA.apart hb hab).2
      have hk2 := hkp.then hk1
      go_wp2_with fail
      refine (penalty_c hb1 hn200 (by omega)).mono ?_
      rintro e w2 ⟨⟨p, hp, rfl⟩, rfl⟩
      have hpi : (p : Int) ≤ 200000000 := by omega
      by_cases hpm : (p : Int) < mn
      · go_wp2_with fail
        go_roundw
        case rel => exact ⟨p, i, i + 1, by omega, rfl, rfl, by go_num, .inr ⟨i, hlt, rfl⟩, ⟨_, hb1⟩, hk2, ha1⟩
        case measure => simp [intOf]; omega
      · have hbb : ∃ b : Nat, b < 8 ∧ bm = b := by
          rcases HB.out with ⟨_, h2, _⟩ | h2
          · omega
          · exact h2
        have HBB := Lib.hid hbb; clear hbb
        go_wp2_with fail
        go_roundw
        case rel => exact ⟨mn, bm, i + 1, by omega, rfl, rfl, by go_num, .inr HBB.out, ⟨_, hb1⟩, hk2, ha1⟩
        case measure => simp [intOf]; omega
    · obtain rfl : i = 8 := by omega
      go_wp2_with fail
      go_ret2
      have hbb : ∃ b : Nat, b < 8 ∧ bm = b := by
        rcases HB.out with ⟨h2, _, _⟩ | h2
        · omega
        · exact h2
      obtain ⟨b, hb8, rfl⟩ := hbb
      exact ⟨⟨b, hb8, rfl⟩, ⟨_, hb⟩, hkp⟩
end

section
open Go.Instr
theorem hint_key (c : Int) (b : Bool) (w : World) (K : TypeId) (hK : Tryz.prog.underlying K = some (.int .i64)) : (Instr.checkKey b 10000 K (.int .i64 c)).run Tryz.prog w = .ok () w := by
  unfold Instr.checkKey
  simp [Sem.run_bind, run_underlying hK, Result.andThen, Sem.run_pure]
theorem hint_find (c : Int) (w : World) (es : List MapEntry) (r : Option (Nat × Value)) (hr : findNow (.int .i64) (.int .i64 c) es 0 = some r) : (Instr.findKey 45 (.int .i64 c) es).run Tryz.prog w = .ok r w := by
  unfold Instr.findKey
  simp [Sem.run_bind, run_underlying Tryz.underlying45, Result.andThen, hr]
theorem run_getMap {P : Program} {w : World} {m cl : Nat} {es : Array MapEntry} (h : w.heap[m]? = some (.map es cl)) : (getObj m).run P w = .ok (.map es cl) w := by
  simp [getObj, Sem.run, h]
theorem hint_none {w : World} {m cl : Nat} {es : Array MapEntry} (h : w.heap[m]? = some (.map es cl)) (c : Int) (hr : findNow (.int .i64) (.int .i64 c) es.toList 0 = some none) :
   (Instr.lookup 47 (.map (some m)) (.int .i64 c) true).run Tryz.prog w = .ok (.tuple #[.nilIface, .bool false]) w := by
  unfold Instr.lookup
  simp [go_sem, run_underlying Tryz.underlying47, run_getMap h, Result.andThen, hint_key c _ w 45 Tryz.underlying45, hint_find c w _ _ hr]
theorem hint_some {w : World} {m cl : Nat} {es : Array MapEntry} (h : w.heap[m]? = some (.map es cl)) (c : Int) (i : Nat) (v : Value) (hr : findNow (.int .i64) (.int .i64 c) es.toList 0 = some (some (i, v))) :
   (Instr.lookup 47 (.map (some m)) (.int .i64 c) true).run Tryz.prog w = .ok (.tuple #[v, .bool true]) w := by
  unfold Instr.lookup
  simp [go_sem, run_underlying Tryz.underlying47, run_getMap h, Result.andThen, hint_key c _ w 45 Tryz.underlying45, hint_find c w _ _ hr]
/-- Block m is a map of hints with the entries es. -/
def HMap (w : World) (m : Nat) (es : Array MapEntry) : Prop := ∃ cl, w.heap[m]? = some (.map es cl)
theorem HMap.lt {w : World} {m : Nat} {es : Array MapEntry} (h : HMap w m es) : m < w.heap.size := by
  obtain ⟨cl, h⟩ := h
  rcases Nat.lt_or_ge m w.heap.size with h1 | h1
  · exact h1
  · rw [Array.getElem?_eq_none h1] at h; cases h
theorem HMap.kept {w w' : World} {m : Nat} {es : Array MapEntry} {S : List Nat} (h : HMap w m es) (hk : Kept S w w') (hm : m ∉ S) : HMap w' m es := by
  have := h.lt
  obtain ⟨cl, h⟩ := h
  exact ⟨cl, by rw [hk.block m this hm, h]⟩
theorem HMap.quiet {w w' : World} {m : Nat} {es : Array MapEntry} (h : HMap w m es) (hk : Kept [] w w') : HMap w' m es := h.kept hk (by simp)
/-- Nothing lies under the key c. -/
def Lacks (es : Array MapEntry) (c : Int) : Prop := findNow (.int .i64) (.int .i64 c) es.toList 0 = some none
theorem HMap.none {w : World} {m : Nat} {es : Array MapEntry} (h : HMap w m es) (c : Int) (hc : Lacks es c) : (Instr.lookup 47 (.map (some m)) (.int .i64 c) true).run Tryz.prog w = .ok (.tuple #[.nilIface, .bool false]) w := by
  obtain ⟨cl, h⟩ := h; exact hint_none h c hc
theorem HMap.some {w : World} {m : Nat} {es : Array MapEntry} (h : HMap w m es) (c : Int) (i : Nat) (v : Value) (hr : findNow (.int .i64) (.int .i64 c) es.toList 0 = some (some (i, v))) :
   (Instr.lookup 47 (.map (some m)) (.int .i64 c) true).run Tryz.prog w = .ok (.tuple #[v, .bool true]) w := by
  obtain ⟨cl, h⟩ := h; exact hint_some h c i v hr
theorem newQR_c (w : World) : Calls Tryz.prog 59 #[] w fun e w' => e = .returned (ptv w.heap.size) ∧ Blk w' w.heap.size [.int .i64 0, .int .i64 0, .pointer none, .int .i64 (-1), .pointer none] 219 ∧ Kept [] w w' := by
  go_enter Tryz.func59, Tryz.ntmps59
  go_wp2
  go_ret
  exact ⟨rfl, Blk.new _ _ _, (Kept.refl _ _).alloc _⟩
theorem setLevel_c {w : World} {Q : Nat} {a b c d e0 : Value} (h : Blk w Q [a, b, c, d, e0] 219) (l : Nat) : Calls Tryz.prog 60 #[ptv Q, intc l] w fun e w' => e = .returned (.tuple #[]) ∧ Blk w' Q [a, intc l, c, d, e0] 219 ∧ Kept [Q] w w' := by
  have h1 := h.at (i := 1) rfl
  have hf := h.free 1
  have H := Lib.hid h
  clear h
  go_enter Tryz.func60, Tryz.ntmps60
  go_wp2
  go_end0
  exact ⟨rfl, H.out.set 1 _, (Kept.refl _ _).setCell (p := ⟨Q, 1, none⟩) (.inl (by simp)) _⟩
theorem setMode_c {w : World} {Q : Nat} {a b c d e0 : Value} (h : Blk w Q [a, b, c, d, e0] 219) (l : Nat) : Calls Tryz.prog 61 #[ptv Q, intc l] w fun e w' => e = .returned (.tuple #[]) ∧ Blk w' Q [intc l, b, c, d, e0] 219 ∧ Kept [Q] w w' := by
  have h1 := h.at (i := 0) rfl
  have hf := h.free 0
  have H := Lib.hid h
  clear h
  go_enter Tryz.func61, Tryz.ntmps61
  go_wp2
  go_end0
  exact ⟨rfl, H.out.set 0 _, (Kept.refl _ _).setCell (p := ⟨Q, 0, none⟩) (.inl (by simp)) _⟩
theorem setVersion_c {w : World} {Q : Nat} {a b c d e0 : Value} (h : Blk w Q [a, b, c, d, e0] 219) (V : Nat) : Calls Tryz.prog 62 #[ptv Q, ptv V] w fun e w' => e = .returned (.tuple #[]) ∧ Blk w' Q [a, b, ptv V, d, e0] 219 ∧ Kept [Q] w w' := by
  have h1 := h.at (i := 2) rfl
  have hf := h.free 2
  have H := Lib.hid h
  clear h
  go_enter Tryz.func62, Tryz.ntmps62
  go_wp2
  go_end0
  exact ⟨rfl, H.out.set 2 _, (Kept.refl _ _).setCell (p := ⟨Q, 2, none⟩) (.inl (by simp)) _⟩
theorem setMask_c {w : World} {Q : Nat} {a b c d e0 : Value} (h : Blk w Q [a, b, c, d, e0] 219) (l : Nat) : Calls Tryz.prog 67 #[ptv Q, intc l] w fun e w' => e = .returned (.tuple #[]) ∧ Blk w' Q [a, b, c, intc l, e0] 219 ∧ Kept [Q] w w' := by
  have h1 := h.at (i := 3) rfl
  have hf := h.free 3
  have H := Lib.hid h
  clear h
  go_enter Tryz.func67, Tryz.ntmps67
  go_wp2
  go_end0
  exact ⟨rfl, H.out.set 3 _, (Kept.refl _ _).setCell (p := ⟨Q, 3, none⟩) (.inl (by simp)) _⟩
theorem setMatrix_c {w : World} {Q : Nat} {a b c d e0 : Value} (h : Blk w Q [a, b, c, d, e0] 219) (V : Nat) : Calls Tryz.prog 69 #[ptv Q, ptv V] w fun e w' => e = .returned (.tuple #[]) ∧ Blk w' Q [a, b, c, d, ptv V] 219 ∧ Kept [Q] w w' := by
  have h1 := h.at (i := 4) rfl
  have hf := h.free 4
  have H := Lib.hid h
  clear h
  go_enter Tryz.func69, Tryz.ntmps69
  go_wp2
  go_end0
  exact ⟨rfl, H.out.set 4 _, (Kept.refl _ _).setCell (p := ⟨Q, 4, none⟩) (.inl (by simp)) _⟩
theorem getMatrix_c {w : World} {Q M : Nat} {a b c d : Value} (h : Blk w Q [a, b, c, d, ptv M] 219) : Calls Tryz.prog 70 #[ptv Q] w fun e w' => e = .returned (ptv M) ∧ w = w' := by
  have h1 := h.at (i := 4) rfl
  clear h
  go_enter Tryz.func70, Tryz.ntmps70
  go_wp2
  go_ret
  exact ⟨rfl, rfl⟩
theorem noMask_c (w : World) : Calls Tryz.prog 65 #[.int .i64 (-1)] w fun e w' => e = .returned (.bool false) ∧ w = w' := by
  go_enter Tryz.func65, Tryz.ntmps65
  go_wp2
  go_ret
  exact ⟨rfl, rfl⟩
theorem appendArray_k {B C0 B2 C2 : Nat} {bs os : List Bool} {ws2 : List Nat} {w0 w : World} (h : BAc B C0 bs w0 w) (h2 : BA w B2 C2 ws2 os) (n1 : B2 ≠ B) (n2 : C2 ≠ B) (n3 : B2 ≠ C0) (n4 : C2 ≠ C0) (l1 : B2 < w0.heap.size) (l2 : C2 < w0.heap.size)
    (hr : bs.length + os.length ≤ 50000) : Calls Tryz.prog 50 #[ptv B, ptv B2] w fun e w' => e = .returned (.tuple #[]) ∧ BAc B C0 (bs ++ os) w0 w' := by
  obtain ⟨C, ws, hb, hk, hC⟩ := h
  refine (appendArray_c w B C B2 C2 ws ws2 bs os hb h2 n1 n2 (by omega) (by omega) hr).mono ?_
  rintro e w1 ⟨rfl, h1⟩
  exact ⟨rfl, BAc.to hk hC h1⟩
end

section
/-- How many bytes of data a version has at a level. -/
def nData (k l : Nat) : Nat := words k - (lev k (lix l)).ec * (lev k (lix l)).count
/-- The bits of a text: mode, count, letters. -/
def segBits (s : ByteArray) : List Bool := vbits (modeOf (chars s)) 4 4 ++ vbits s.size (cbits (modeOf (chars s))) (cbits (modeOf (chars s))) ++ textBits (modeOf (chars s)) (chars s)
/-- The data bits of a text, filled up. -/
def payload (k l : Nat) (s : ByteArray) : List Bool := filled (nData k l) (segBits s)
def layOk (k l : Nat) : Bool :=
  let nT := words k
  let nD := nData k l
  let nB := (lev k (lix l)).count
  let ec := (lev k (lix l)).ec
  decide ((nB = 1 ∨ nB = 2 ∨ nB = 4 ∨ nB = 5 ∨ nB = 6) ∧ nT ≤ 300 ∧ nD ≤ nT ∧ nB ≤ nD ∧ nT / nB - nD / nB = ec ∧ 1 ≤ ec ∧ ec < 30 ∧ offs nT nD nB nB = nD ∧ maxLens nT nD nB nB ≤ 130 ∧ nD + nB * ec = nT)
theorem layOk_all : ∀ k, k < 8 → 1 ≤ k → ∀ l, l < 4 → layOk k l = true := by decide +kernel
/-- The finished code in the world w: the bits laid are those of the blocks, one after the other. -/
structure CodeOf (w : World) (Q : Nat) (k l : Nat) (s : ByteArray) (x : Nat) (M : Nat → Nat → Int) (bits : List Bool) : Prop where
  mask : x < 8
  rows : ∃ rows, RowsFor (payload (k + 1) l s) (words (k + 1)) (nData (k + 1) l) (lev (k + 1) (lix l)).count (lev (k + 1) (lix l)).ec (lev (k + 1) (lix l)).count rows ∧
    bits = byteBits (ilv (rows.map (·.1)) (maxLens (words (k + 1)) (nData (k + 1) l) (lev (k + 1) (lix l)).count (lev (k + 1) (lix l)).count) ++ ilv (rows.map (·.2)) (lev (k + 1) (lix l)).ec)
  mat : M = (laid bits x (21 + 4 * k) (fixed (21 + 4 * k) k l x) (10 + 2 * k) 0).2
  cells : ∃ V B R, Blk w Q [intc (modeOf (chars s)), intc l, ptv V, intc x, ptv B] 219 ∧ BM w B R (21 + 4 * k) M
theorem segBits_len (s : ByteArray) : (segBits s).length = (vbits (modeOf (chars s)) 4 4).length + cbits (modeOf (chars s)) + (textBits (modeOf (chars s)) (chars s)).length := by
  unfold segBits; simp only [List.length_append, vbits_length]
theorem textBits_le (m : Nat) (s : ByteArray) : (textBits m (chars s)).length ≤ 11 * s.size := by
  have h := chars_len s
  unfold textBits
  split
  · have := numBits_len (chars s); omega
  · split
    · have := alphaBits_len (chars s); omega
    · rw [byteBits_len]; omega
theorem textLen (s : ByteArray) (h : modeOf (chars s) = 4) : ((textBits 4 (chars s)).length + 7) / 8 = s.size := by
  rw [show textBits 4 (chars s) = byteBits (chars s) from rfl, byteBits_len, chars_len]; omega
theorem code_len {bs : List Bool} {nT nD nB ec m : Nat} {rows : List (List Nat × List Nat)} (h : RowsFor bs nT nD nB ec nB rows) (ho : offs nT nD nB nB = nD) (ht : nD + nB * ec = nT) (hm : maxLens nT nD nB nB = m) :
    (byteBits (ilv (rows.map (·.1)) m ++ ilv (rows.map (·.2)) ec)).length = 8 * nT := by
  obtain ⟨s1, s2⟩ := h.sums
  rw [byteBits_len, List.length_append, ilv_full, ilv_full]
  · rw [show (rows.map (·.1)).map (fun r => r.length) = (rows.map (·.1)).map List.length from rfl, show (rows.map (·.2)).map (fun r => r.length) = (rows.map (·.2)).map List.length from rfl, s1, s2, ho, ht]
  · intro r hr
    obtain ⟨x, hx, rfl⟩ := List.mem_map.1 hr
    obtain ⟨j, hj⟩ := List.mem_iff_getElem?.1 hx
    rw [(h.2 j x hj).2.len]; exact Nat.le_refl _
  · intro r hr
    obtain ⟨x, hx, rfl⟩ := List.mem_map.1 hr
    obtain ⟨j, hj⟩ := List.mem_iff_getElem?.1 hx
    have hj1 : j < nB := by
      have := h.1
      rcases Nat.lt_or_ge j rows.length with h1 | h1
      · omega
      · rw [List.getElem?_eq_none h1] at hj; cases hj
    have e := (h.2 j x hj).1
    have := maxLens_ge nT nD nB nB j hj1
    rw [e]; unfold blockData; rw [bytesAt_len]; omega
set_option maxRecDepth 100000 in
set_option maxHeartbeats 4000000 in
theorem encodeText_c {w : World} {mp : Nat} {es : Array MapEntry} (hM : HMap w mp es) (k1 : Lacks es 1) (k12 : Lacks es 12) (k10 : Lacks es 10) (k11 : Lacks es 11) (s : ByteArray) (h0 : 0 < s.size) (hs : s.size ≤ 200) (k l : Nat) (hk7 : k < 7) (hl : l < 4)
    (hK : fits (k + 1) l (segBits s).length = true) (hlo : ∀ j, 1 ≤ j → j < k + 1 → fits j l (segBits s).length = false)
    (hall : ∀ bs : List Bool, bs.length = 8 * words (k + 1) → ∀ x, x < 8 → (laid bs x (21 + 4 * k) (fixed (21 + 4 * k) k l x) (10 + 2 * k) 0).1 = bs.length) :
    Calls Tryz.prog 24 #[.string s, intc l, .map (some mp)] w fun e w' => (∃ Q x M bits, e = .returned (.tuple #[ptv Q, .nilIface]) ∧ CodeOf w' Q k l s x M bits) ∧ Kept [] w w' := by
  have HM := Lib.hid hM
  have HK := Lib.hid hK
  have HLO := Lib.hid hlo
  have HALL := Lib.hid hall
  have L1 := hM.none 1 k1
  obtain ⟨m, hm⟩ : ∃ m, modeOf (chars s) = m := ⟨_, rfl⟩
  have Hm := Lib.hid hm
  have hm3 : m = 1 ∨ m = 2 ∨ m = 4 := by rw [← hm]; rcases modeOf_three (chars s) with h | h | h <;> simp [h]
  have hsi : (s.size : Int) ≤ 200 := by omega
  clear hM hK hlo hall hm
  go_enter Tryz.func24, Tryz.ntmps24
  go_wp2_with fail
  refine (chooseMode_c s w (by omega) h0).mono ?_
  rintro e w1 ⟨rfl, q1⟩
  rw [Hm.out]
  go_wp2_with fail
  refine (NewEmpty_c w1).mono ?_
  rintro e w2 ⟨rfl, hb1, q2, z2⟩
  have z2' := Lib.hid z2
  clear z2
  have Q2 := q1.trans0 q2
  have L12 := (HM.out.quiet Q2).none 12 k12
  go_wp2_with fail
  refine (appendMode_k (BAc.start hb1) m (by omega) (Nat.zero_le _)).mono ?_
  rintro e w3 ⟨rfl, b3⟩
  rw [List.nil_append] at b3
  go_wp2_with fail
  refine (NewEmpty_c w3).mono ?_
  rintro e w4 ⟨rfl, hb4, q4, z4⟩
  have z4' := Lib.hid z4
  clear z4
  go_wp2_with fail
  have At := appendText_k (BAc.start hb4) s (by omega) (Nat.zero_le _)
  rw [Hm.out] at At
  refine At.mono ?_
  rintro e w5 ⟨rfl, b5⟩
  rw [List.nil_append] at b5
  have p3 := b3.keeps
  have p5 := b5.keeps
  have Z3 := Lib.hid p3.size
  have Z4 := Lib.hid q4.size
  have Z5 := Lib.hid p5.size
  have Q35 : Kept [] w3 w5 := q4.trans p5 (fun x hx hl => by have := Z4.out; simp at hx; omega)
  have b13 := b3.quiet Q35
  have Q25 : Kept [w1.heap.size + 1, w1.heap.size] w2 w5 := p3.trans0 Q35
  have Q05 : Kept [] w w5 := Q2.trans Q25 (fun x hx hl => by have := Q2.size; have := q1.size; simp at hx; omega)
  have L10 := (HM.out.quiet Q05).none 10 k10
  clear L12 L1
  go_wp2_with fail
  have HT := Lib.hid (textBits_le m s)
  refine (recommend_c (k + 1) l m hm3 b13 b5 (by rw [vbits_length]; omega) (by have := HT.out; omega) (by omega) (by omega) hl (by have h1 := HK.out; have h2 := segBits_len s; rw [Hm.out] at h2; rw [← h2]; exact h1)
    (fun j h1 h2 => by have h3 := HLO.out j h1 h2; have h2 := segBits_len s; rw [Hm.out] at h2; rw [← h2]; exact h3)).mono ?_
  rintro e w6 ⟨⟨V, N, rfl, hV, hN⟩, q6⟩
  have HN := Lib.hid hN
  clear hN
  go_wp2_with fail
  refine (NewEmpty_c w6).mono ?_
  rintro e w7 ⟨rfl, hb7, q7, z7⟩
  have z7' := Lib.hid z7
  clear z7
  obtain ⟨C1, ws1, a1, _, hC1⟩ := b13.quiet q6
  obtain ⟨C2, ws2, a2, _, hC2⟩ := b5.quiet q6
  have la1 := Lib.hid a1.st.lt
  have la2 := Lib.hid a1.ar.lt
  have la3 := Lib.hid a2.st.lt
  have la4 := Lib.hid a2.ar.lt
  have Z6 := Lib.hid q6.size
  go_wp2_with fail
  refine (appendArray_k (BAc.start hb7) (a1.kept q7 (by simp) (by simp)) (by have := la1.out; omega) (by have := la2.out; omega) (by have := la1.out; omega) (by have := la2.out; omega)
    (by have := la1.out; have := z7'.out; omega) (by have := la2.out; have := z7'.out; omega) (by rw [vbits_length]; simp)).mono ?_
  rintro e w8 ⟨rfl, b8⟩
  rw [List.nil_append] at b8
  have p8 := b8.keeps
  have Q68 : Kept [] w6 w8 := q7.trans p8 (fun x hx hl => by have := z7'.out; simp at hx; omega)
  have v8 := hV.kept Q68 (by simp)
  have a28 := a2.kept Q68 (by simp) (by simp)
  obtain ⟨wo, hwo⟩ : ∃ wo : World, wo = w8 := ⟨_, rfl⟩
  have HWO := Lib.hid hwo
  clear hwo
  go_upto_if 158 with fail
  go_cut [30] from 158 to 161 (fun v wx => v = intc s.size ∧ w8 = wx)
  case first =>
    rcases hm3 with rfl | rfl | rfl
    · go_wp2_with fail
      go_meet
      exact ⟨rfl, rfl⟩
    · go_wp2_with fail
      go_meet
      exact ⟨rfl, rfl⟩
    · go_wp2_with fail
      refine (sizeInBytes_c w8 _ _ _ _ a28).mono ?_
      rintro e wx ⟨rfl, rfl⟩
      rw [textLen s Hm.out]
      go_wp2_with fail
      go_meet
      exact ⟨rfl, rfl⟩
  case rest =>
    obtain ⟨rfl, rfl⟩ := hcut
    have HW := Lib.hid (chars_len s)
    go_wp2_with fail
    refine (appendLength_k b8 v8 (by omega) m s.size hm3 (by omega) (by rw [vbits_length]; omega)).mono ?_
    rintro e w9 ⟨rfl, b9⟩
    have p9 := b9.keeps
    have Q69 : Kept [] w6 w9 := q7.trans p9 (fun x hx hl => by have := z7'.out; simp at hx; omega)
    have a29 := a2.kept Q69 (by simp) (by simp)
    have hcb := Lib.hid (cbits_le m)
    go_wp2_with fail
    refine (appendArray_k b9 a29 (by have := la3.out; omega) (by have := la4.out; omega) (by have := la3.out; omega) (by have := la4.out; omega)
      (by have := la3.out; have := z7'.out; omega) (by have := la4.out; have := z7'.out; omega) (by rw [List.length_append, vbits_length, vbits_length]; have := hcb.out; have := HT.out; omega)).mono ?_
    rintro e w10 ⟨rfl, b10⟩
    rw [show vbits m 4 4 ++ vbits s.size (cbits m) (cbits m) ++ textBits m (chars s) = segBits s from by unfold segBits; rw [Hm.out]] at b10
    have p10 := b10.keeps
    have Q610 : Kept [] w6 w10 := q7.trans p10 (fun x hx hl => by have := z7'.out; simp at hx; omega)
    have v10 := hV.kept Q610 (by simp)
    have hll := lix_lt l
    have hsm := lev_small (k + 1) (lix l) (by omega) (by omega) hll
    obtain ⟨d1, d2, d3, d4, d5, d6, d7, d8, d9, d10⟩ := of_decide_eq_true (layOk_all (k + 1) (by omega) (by omega) l hl)
    have HFIT : Hid ((segBits s).length ≤ 8 * nData (k + 1) l) := Lib.hid (by
      have h1 := HK.out
      have h2 : fits (k + 1) l (segBits s).length = decide (((segBits s).length + 7) / 8 ≤ nData (k + 1) l) := rfl
      rw [h2, decide_eq_true_iff] at h1
      omega)
    have C1 := verLevel_c v10 l hl
    have C2 := verWords_c v10
    have C3 := ecTotal_c (v10.eb (lix l) hll) hsm
    have C4 := fun {w : World} (h : Ver w V N (k + 1)) => verWords_c h
    have C5 := fun {w : World} (h : Ver w V N (k + 1)) => numBlocks_c (h.eb (lix l) hll) hsm
    have CW : Hid (∀ rows, RowsFor (payload (k + 1) l s) (words (k + 1)) (nData (k + 1) l) (lev (k + 1) (lix l)).count (lev (k + 1) (lix l)).ec (lev (k + 1) (lix l)).count rows → ∀ (w : World) (Q x : Nat) (M : Nat → Nat → Int) (bits : List Bool), x < 8 →
      bits = byteBits (ilv (rows.map (·.1)) (maxLens (words (k + 1)) (nData (k + 1) l) (lev (k + 1) (lix l)).count (lev (k + 1) (lix l)).count) ++ ilv (rows.map (·.2)) (lev (k + 1) (lix l)).ec) →
      M = (laid bits x (21 + 4 * k) (fixed (21 + 4 * k) k l x) (10 + 2 * k) 0).2 →
      (∃ V B R, Blk w Q [intc (modeOf (chars s)), intc l, ptv V, intc x, ptv B] 219 ∧ BM w B R (21 + 4 * k) M) → CodeOf w Q k l s x M bits) := Lib.hid (fun rows hr w Q x M bits hx hb hM hc => ⟨hx, ⟨rows, hr, hb⟩, hM, hc⟩)
    have hpay : Hid (payload (k + 1) l s = filled (nData (k + 1) l) (segBits s)) := Lib.hid rfl
    generalize payload (k + 1) l s = P at CW hpay
    generalize (lev (k + 1) (lix l)).count = nB at d1 d4 d5 d8 d9 d10 C3 C5 CW
    generalize (lev (k + 1) (lix l)).ec = ec at d5 d6 d7 d10 C3 CW
    have HALL2 := HALL
    generalize words (k + 1) = nT at d2 d3 d5 d8 d9 d10 C2 C4 CW HALL2
    generalize nData (k + 1) l = nD at d3 d4 d5 d8 d9 d10 HFIT CW hpay
    obtain ⟨p, hp⟩ : ∃ p, ec * nB = p := ⟨_, rfl⟩
    rw [hp] at C3
    have hp2 : nD + p = nT := by rw [← hp, Nat.mul_comm]; exact d10
    have i1 : (nT : Int) ≤ 300 := by omega
    have i2 : (nT : Int) - (p : Int) = nD := by omega
    have i3 : (nD : Int) ≤ nT := by omega
    have D5 := Lib.hid d5
    have D8 := Lib.hid d8
    have D9 := Lib.hid d9
    have D10 := Lib.hid d10
    have D1 := Lib.hid d1
    have HP := Lib.hid hp
    have HP2 := Lib.hid hp2
    clear d5 d8 d9 d10 hp hp2 d1
    go_wp2_with fail
    refine C1.mono ?_
    rintro e wx ⟨rfl, rfl⟩
    go_wp2_with fail
    refine C2.mono ?_
    rintro e wx ⟨rfl, rfl⟩
    go_wp2_with fail
    refine C3.mono ?_
    rintro e w11 ⟨rfl, q11⟩
    have b11 := b10.quiet q11
    have v11 := v10.kept q11 (by simp)
    go_wp2_with fail
    refine (terminate_k b11 nD (by omega) (by have := HFIT.out; omega)).mono ?_
    rintro e w12 ⟨rfl, b12⟩
    have p12 := b12.keeps
    have Q612 : Kept [] w6 w12 := q7.trans p12 (fun x hx hl => by have := z7'.out; simp at hx; omega)
    have v12 := hV.kept Q612 (by simp)
    rw [← hpay.out] at b12
    have hPl : P.length = 8 * nD := by rw [hpay.out]; exact filled_len _ _ HFIT.out
    have HPL := Lib.hid hPl
    clear hPl
    go_wp2_with fail
    refine (C4 v12).mono ?_
    rintro e wx ⟨rfl, rfl⟩
    go_wp2_with fail
    refine (C5 v12).mono ?_
    rintro e w13 ⟨rfl, q13⟩
    obtain ⟨C13, ws13, a13, _, _⟩ := b12.quiet q13
    have v13 := v12.kept q13 (by simp)
    have Q613 := Q612.trans0 q13
    have hBD := d4
    go_wp2_with fail
    refine (interleave_c a13 nT nD nB ec D1.out d2 d3 hBD HPL.out D5.out d6 d7 D8.out D9.out D10.out).mono ?_
    rintro e w14 ⟨⟨RB, RC, ws', rows, rfl, hrows, a14, hRB, hRC⟩, q14⟩
    have hcl := code_len hrows D8.out D10.out rfl
    have HROWS := Lib.hid hrows
    clear hrows
    obtain ⟨bits, hbits⟩ : ∃ bits, byteBits (ilv (rows.map (·.1)) (maxLens nT nD nB nB) ++ ilv (rows.map (·.2)) ec) = bits := ⟨_, rfl⟩
    rw [hbits] at a14 hcl
    have HBITS := Lib.hid hbits
    have HCL := Lib.hid hcl
    clear hbits hcl
    have v14 := v13.kept q14 (by simp)
    have Q614 := Q613.trans0 q14
    have Z614 := Lib.hid Q614.size
    have Q514 : Kept [] w5 w14 := q6.trans0 Q614
    have Q014 : Kept [] w w14 := (Q05.trans0 q6).trans0 Q614
    have HV14 := Lib.hid v14.self.lt
    have HA1 := Lib.hid a14.st.lt
    have HA2 := Lib.hid a14.ar.lt
    clear L10 C1 C2 C3 C4 C5 i2 i3
    go_wp2_with fail
    refine (newQR_c w14).mono ?_
    rintro e w15 ⟨rfl, g15, q15⟩
    have HQ15 := Lib.hid g15.lt
    go_wp2_with fail
    refine (setLevel_c g15 l).mono ?_
    rintro e w16 ⟨rfl, g16, q16⟩
    go_wp2_with fail
    refine (setMode_c g16 m).mono ?_
    rintro e w17 ⟨rfl, g17, q17⟩
    go_wp2_with fail
    refine (setVersion_c g17 V).mono ?_
    rintro e w18 ⟨rfl, g18, q18⟩
    have Q1418 : Kept [] w14 w18 := q15.trans ((q16.then q17).then q18) (fun x hx hl => by simp at hx; omega)
    have v18 := v14.kept Q1418 (by simp)
    have a18 := a14.kept Q1418 (by simp) (by simp)
    have H18 := (HM.out.quiet (Q014.trans0 Q1418))
    have hdim := verDim_c v18 (by omega)
    rw [show 17 + 4 * (k + 1) = 21 + 4 * k by omega] at hdim
    obtain ⟨n, hn⟩ : ∃ n, n = 21 + 4 * k := ⟨_, rfl⟩
    rw [← hn] at hdim
    have hn9 : n ≤ 200 := by omega
    have Hn := Lib.hid hn
    clear hn
    have HG18 := Lib.hid g18.lt
    have HZ18 := Lib.hid Q1418.size
    go_wp2_with fail
    refine hdim.mono ?_
    rintro e wx ⟨rfl, rfl⟩
    go_wp2_with fail
    refine (newMatrix_c w18 n hn9).mono ?_
    rintro e w19 ⟨⟨R, rfl, hR, m19⟩, q19⟩
    have L11 := (H18.quiet q19).none 11 k11
    have HR := Lib.hid hR
    clear hR
    have v19 := v18.kept q19 (by simp)
    have a19 := a18.kept q19 (by simp) (by simp)
    have g19 := q19.blk g18 (by simp)
    have hVR : V < R := by have := HV14.out; have := HR.out; have := HZ18.out; omega
    have hQR : w14.heap.size < R := by have := HG18.out; have := HR.out; omega
    have hAR : RB < R := by have := HA1.out; have := HR.out; have := HZ18.out; omega
    have hBR : RC < R := by have := HA2.out; have := HR.out; have := HZ18.out; omega
    have HVR := Lib.hid hVR
    have HQR := Lib.hid hQR
    have HAR := Lib.hid hAR
    have HBR := Lib.hid hBR
    clear hVR hQR hAR hBR
    go_wp2_with fail
    refine (chooseMask_c m19 v19 a19 HVR.out hk7 Hn.out l hl (fun x hx => by have := HALL2.out bits HCL.out x hx; rw [Hn.out]; exact this)).mono ?_
    rintro e w20 ⟨⟨x, hx8, rfl⟩, ⟨M', m20⟩, q20⟩
    have hxi : (x : Int) < 8 := by omega
    have v20 := v19.kept q20 (fun y hy => by simp [span] at hy; have := HVR.out; omega)
    have a20 := a19.kept q20 (fun hy => by simp [span] at hy; have := HAR.out; omega) (fun hy => by simp [span] at hy; have := HBR.out; omega)
    have g20 := q20.blk g19 (fun hy => by simp [span] at hy; have := HQR.out; omega)
    go_wp2_with fail
    refine (setMask_c g20 x).mono ?_
    rintro e w21 ⟨rfl, g21, q21⟩
    have v21 := v20.kept q21 (fun y hy => by simp at hy; have := HV14.out; omega)
    have a21 := a20.kept q21 (fun hy => by simp at hy; have := HA1.out; omega) (fun hy => by simp at hy; have := HA2.out; omega)
    have m21 := m20.kept q21 (fun y hy => by simp at hy; have := HQR.out; omega)
    go_wp2_with fail
    refine (build_c m21 v21 a21 HVR.out hk7 Hn.out l x hl hx8 (by have := HALL2.out bits HCL.out x hx8; rw [Hn.out]; exact this)).mono ?_
    rintro e w22 ⟨rfl, m22, q22⟩
    have g22 := q22.blk g21 (fun hy => by simp [span] at hy; have := HQR.out; omega)
    go_wp2_with fail
    refine (setMatrix_c g22 _).mono ?_
    rintro e w23 ⟨rfl, g23, q23⟩
    have m23 := m22.kept q23 (fun y hy => by simp at hy; have := HQR.out; omega)
    go_wp2_with fail
    go_ret2
    refine ⟨⟨w14.heap.size, x, (laid bits x (21 + 4 * k) (fixed (21 + 4 * k) k l x) (10 + 2 * k) 0).2, bits, rfl, ?_⟩, ?_⟩
    · rw [Hn.out] at m23 g23
      refine CW.out rows HROWS.out _ _ x _ bits hx8 HBITS.out.symm rfl ⟨V, _, R, ?_, m23⟩
      rw [Hm.out]; exact g23
    · have Q019 := (Q014.trans0 Q1418).trans0 q19
      have Q20 := Q019.trans q20 (fun y hy hl => by simp [span] at hy; have := HR.out; have := (Q014.trans0 Q1418).size; omega)
      have Q21 := Q20.trans q21 (fun y hy hl => by simp at hy; have := Q014.size; omega)
      have Q22 := Q21.trans q22 (fun y hy hl => by simp [span] at hy; have := HR.out; have := (Q014.trans0 Q1418).size; omega)
      exact Q22.trans q23 (fun y hy hl => by simp at hy; have := Q014.size; omega)
end

section
theorem numBits_few : ∀ cs : List Nat, (numBits cs).length ≤ 4 * cs.length
  | a :: b :: c :: r => by
    have := numBits_few r
    simp only [numBits, List.length_append, vbits_length, List.length_cons]; omega
  | [a, b] => by simp [numBits, vbits_length]
  | [a] => by simp [numBits, vbits_length]
  | [] => by simp [numBits]
theorem alphaBits_few : ∀ cs : List Nat, (alphaBits cs).length ≤ 6 * cs.length
  | a :: b :: r => by
    have := alphaBits_few r
    simp only [alphaBits, List.length_append, vbits_length, List.length_cons]; omega
  | [a] => by simp [alphaBits, vbits_length]
  | [] => by simp [alphaBits]
theorem segBits_few (s : ByteArray) (hs : s.size ≤ 60) : (segBits s).length ≤ 500 := by
  rw [segBits_len, vbits_length]
  have hc := cbits_le (modeOf (chars s))
  have hl := chars_len s
  have ht : (textBits (modeOf (chars s)) (chars s)).length ≤ 480 := by
    unfold textBits
    split
    · have := numBits_few (chars s); omega
    · split
      · have := alphaBits_few (chars s); omega
      · rw [byteBits_len]; omega
  omega
theorem cap_seven : ∀ l, l < 4 → 66 ≤ dataCap 7 l := by decide
theorem fits_seven (l x : Nat) (hl : l < 4) (hx : x ≤ 500) : fits 7 l x = true := by
  have := cap_seven l hl
  unfold fits; rw [decide_eq_true_iff]; omega
/-- The least version that takes so many bits. -/
theorem least_version (l x : Nat) (hl : l < 4) (hx : x ≤ 500) : ∃ k, k < 7 ∧ fits (k + 1) l x = true ∧ ∀ j, 1 ≤ j → j < k + 1 → fits j l x = false := by
  have h7 := fits_seven l x hl hx
  have step : ∀ d k, k + d = 6 → (∀ j, 1 ≤ j → j < k + 1 → fits j l x = false) → ∃ k, k < 7 ∧ fits (k + 1) l x = true ∧ ∀ j, 1 ≤ j → j < k + 1 → fits j l x = false := by
    intro d
    induction d with
    | zero => intro k hk hlo; exact ⟨6, by omega, h7, by intro j h1 h2; exact hlo j h1 (by omega)⟩
    | succ d ih =>
      intro k hk hlo
      cases e : fits (k + 1) l x with
      | true => exact ⟨k, by omega, e, hlo⟩
      | false =>
        refine ih (k + 1) (by omega) ?_
        intro j h1 h2
        rcases Nat.lt_or_ge j (k + 1) with h | h
        · exact hlo j h1 h
        · obtain rfl : j = k + 1 := by omega
          exact e
  exact step 6 0 (by omega) (by intro j h1 h2; omega)
theorem fits_cap {k l x : Nat} (h : fits k l x = true) : x ≤ 8 * nData k l := by
  unfold fits at h
  rw [decide_eq_true_iff] at h
  unfold dataCap at h
  unfold nData
  omega
def alphaList : List Nat := [48, 49, 50, 51, 52, 53, 54, 55, 56, 57, 65, 66, 67, 68, 69, 70, 71, 72, 73, 74, 75, 76, 77, 78, 79, 80, 81, 82, 83, 84, 85, 86, 87, 88, 89, 90, 32, 36, 37, 42, 43, 45, 46, 47, 58]
theorem alpha_back : ∀ c, c < 256 → isAl c = true → alphaList.getD (alphaCode c).toNat 0 = c ∧ (alphaCode c).toNat < 45 := by
  have h : (List.range 256).all (fun c => !(isAl c) || (alphaList.getD (alphaCode c).toNat 0 == c && decide ((alphaCode c).toNat < 45))) = true := by kernel_rfl
  intro c hc hi
  rw [List.all_eq_true] at h
  have h2 := h c (List.mem_range.2 hc)
  rw [hi, Bool.not_true, Bool.false_or, Bool.and_eq_true, beq_iff_eq, decide_eq_true_iff] at h2
  exact h2
end
end Go.Proofs.YtplpafbkalkchaaGreatDoor
