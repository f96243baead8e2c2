/- Blocks of words in memory; the blocks of a level. Walk: the words are parted into blocks. -/
import Derived.Test.YtplpafbkalkchaaGreatDoorW09
import Derived.Test.YtplpafbkalkchaaGreatDoorW37
import Derived.Test.YtplpafbkalkchaaGreatDoorW12
import Derived.Test.YtplpafbkalkchaaGreatDoorW14
namespace Go.Proofs.YtplpafbkalkchaaGreatDoor
open Go Go.RowKit Go.Proofs
set_option linter.all false

section
/-- m of nB blocks, with the words cw in them. -/
structure DBs (w : World) (B0 RB nB m ec : Nat) (dl ps qs : Nat → Nat) (cw : Nat → Nat → Nat) : Prop where
  row : Blk w RB ((List.range nB).map fun j => if j < m then ptv (ps j) else .pointer none) 320
  blk : ∀ j, j < m → Blk w (ps j) [intc (dl j), slv (qs j) (dl j + ec) (dl j + ec)] 344
  wor : ∀ j, j < m → Blk w (qs j) ((List.range (dl j + ec)).map fun i => u8c (cw j i)) 5
  lo : ∀ j, j < m → B0 ≤ qs j
  loR : B0 ≤ RB
  inj : ∀ i j, i < m → j < m → qs i = qs j → i = j
theorem DBs.kept {w w' : World} {B0 RB nB m ec : Nat} {dl ps qs : Nat → Nat} {cw : Nat → Nat → Nat} (h : DBs w B0 RB nB m ec dl ps qs cw) (hk : Kept [] w w') : DBs w' B0 RB nB m ec dl ps qs cw :=
  ⟨hk.blk h.row (by simp), fun j hj => hk.blk (h.blk j hj) (by simp), fun j hj => hk.blk (h.wor j hj) (by simp), h.lo, h.loR, h.inj⟩
theorem Blk.setT {w : World} {b q i : Nat} {vs us : List Value} {T U : TypeId} (h : Blk w b vs T) (hq : Blk w q us U) (hne : T ≠ U) (v : Value) : Blk (w.setCell ⟨q, i, none⟩ v) b vs T :=
  h.set_other (fun e => by simp at e; subst e; exact hne (h.type hq)) v
theorem range_set (n i : Nat) (f : Nat → Value) (v : Value) (h : i < n) : ((List.range n).map f).set i v = (List.range n).map fun k => if k = i then v else f k := by
  apply List.ext_getElem?
  intro k
  rw [List.getElem?_set, List.getElem?_map, List.getElem?_map]
  rcases Nat.lt_or_ge k n with hk | hk
  · rw [List.getElem?_range hk, List.length_map, List.length_range]
    by_cases e : i = k
    · subst e; simp [h]
    · rw [if_neg e]; simp [Ne.symm e]
  · rw [List.getElem?_eq_none (by simpa using hk)]
    by_cases e : i = k
    · omega
    · rw [if_neg e]; rfl
theorem DBs.set {w : World} {B0 RB nB m ec : Nat} {dl ps qs : Nat → Nat} {cw : Nat → Nat → Nat} (h : DBs w B0 RB nB m ec dl ps qs cw) (j i x : Nat) (hj : j < m) (hi : i < dl j + ec) :
    DBs (w.setCell ⟨qs j, i, none⟩ (u8c x)) B0 RB nB m ec dl ps qs (fun a b => if a = j ∧ b = i then x else cw a b) := by
  have hq := h.wor j hj
  refine ⟨h.row.setT hq (by decide) _, fun k hk => (h.blk k hk).setT hq (by decide) _, fun k hk => ?_, h.lo, h.loR, h.inj⟩
  by_cases e : k = j
  · subst e
    have := hq.set i (u8c x)
    rw [range_set _ _ _ _ hi] at this
    have e2 : ((List.range (dl k + ec)).map fun b => if b = i then u8c x else u8c (cw k b)) = (List.range (dl k + ec)).map fun b => u8c (if k = k ∧ b = i then x else cw k b) := by
      apply List.map_congr_left
      intro b _
      by_cases hb : b = i
      · simp [hb]
      · simp [hb]
    rw [e2] at this
    exact this
  · have h2 := (h.wor k hk).set_other (a := ⟨qs j, i, none⟩) (fun e3 => e (h.inj j k hj hk e3).symm) (u8c x)
    have e2 : ((List.range (dl k + ec)).map fun b => u8c (cw k b)) = (List.range (dl k + ec)).map fun b => u8c (if k = j ∧ b = i then x else cw k b) := by
      apply List.map_congr_left
      intro b _
      simp [e]
    rw [e2] at h2
    exact h2
theorem DBs.snoc {w w1 : World} {B0 RB nB m ec P Q d n : Nat} {dl ps qs : Nat → Nat} {cw : Nat → Nat → Nat} (h : DBs w B0 RB nB m ec dl ps qs cw) (hk : Kept [] w w1) (hP : Blk w1 P [intc d, slv Q n n] 344) (hQ : Blk w1 Q (List.replicate n (u8c 0)) 5)
    (hlo : w.heap.size ≤ Q) (hloP : w.heap.size ≤ P) (hm : m < nB) (hd : dl m = d) (hn : n = d + ec) (hB : B0 ≤ w.heap.size) (hcw : ∀ i, cw m i = 0) :
    DBs (w1.setCell ⟨RB, m, none⟩ (ptv P)) B0 RB nB (m + 1) ec dl (fun j => if j = m then P else ps j) (fun j => if j = m then Q else qs j) cw := by
  have h1 := h.kept hk
  have hR := h1.row
  have hq0 : ∀ j, j < m → qs j < w.heap.size := fun j hj => (h.wor j hj).lt
  refine ⟨?_, fun k hk2 => ?_, fun k hk2 => ?_, fun k hk2 => ?_, h.loR, fun a b ha hb e => ?_⟩
  · have := hR.set m (ptv P)
    rw [range_set _ _ _ _ hm] at this
    have e2 : ((List.range nB).map fun k => if k = m then ptv P else if k < m then ptv (ps k) else .pointer none) = (List.range nB).map fun j => if j < m + 1 then ptv (if j = m then P else ps j) else .pointer none := by
      apply List.map_congr_left
      intro k _
      by_cases e : k = m
      · subst e; simp
      · by_cases h3 : k < m
        · simp [e, h3, show k < m + 1 by omega]
        · simp [e, h3, show ¬ k < m + 1 by omega]
    rw [e2] at this
    exact this
  · by_cases e : k = m
    · subst e
      simp only [if_pos]
      rw [hd, ← hn]
      exact hP.setT hR (by decide) _
    · simp only [if_neg e]
      exact (h1.blk k (by omega)).setT hR (by decide) _
  · by_cases e : k = m
    · subst e
      simp only [if_pos]
      rw [hd, ← hn]
      have e2 : ((List.range n).map fun i => u8c (cw k i)) = List.replicate n (u8c 0) := by
        apply List.ext_getElem
        · simp
        · intro i h1 h2; simp [hcw]
      rw [e2]
      exact hQ.setT hR (by decide) _
    · simp only [if_neg e]
      exact (h1.wor k (by omega)).setT hR (by decide) _
  · by_cases e : k = m
    · simp only [if_pos e]; omega
    · simp only [if_neg e]; exact h.lo k (by omega)
  · by_cases ea : a = m
    · by_cases eb : b = m
      · omega
      · simp only [if_pos ea, if_neg eb] at e
        have := hq0 b (by omega); omega
    · by_cases eb : b = m
      · simp only [if_neg ea, if_pos eb] at e
        have := hq0 a (by omega); omega
      · simp only [if_neg ea, if_neg eb] at e
        exact h.inj a b (by omega) (by omega) e
theorem DBs.row_at {w : World} {B0 RB nB m ec : Nat} {dl ps qs : Nat → Nat} {cw : Nat → Nat → Nat} (h : DBs w B0 RB nB m ec dl ps qs cw) (j : Nat) (hj : j < m) (hm : m ≤ nB) : w.cell? ⟨RB, j, none⟩ = some (ptv (ps j)) := by
  apply h.row.at
  rw [List.getElem?_map, List.getElem?_range (by omega)]
  simp [hj]
theorem DBs.word_at {w : World} {B0 RB nB m ec : Nat} {dl ps qs : Nat → Nat} {cw : Nat → Nat → Nat} (h : DBs w B0 RB nB m ec dl ps qs cw) (j i : Nat) (hj : j < m) (hi : i < dl j + ec) : w.cell? ⟨qs j, i, none⟩ = some (u8c (cw j i)) := by
  apply (h.wor j hj).at
  rw [List.getElem?_map, List.getElem?_range hi]; rfl
/-- The runs of a level: as many data words as dl says, block for block. -/
structure Runs (e : ECD) (nB short ls : Nat) : Prop where
  all : e.upto e.runs.length = nB
  each : ∀ t (ht : t < e.runs.length), ∀ j, e.upto t ≤ j → j < e.upto t + e.runs[t].1 → (if ls ≤ j then short + 1 else short) = e.runs[t].2
  le : ls ≤ nB
  pos : 1 ≤ ls
theorem runs_get (e : ECD) (t : Nat) (ht : t < e.runs.length) : e.runs.getD t (0, 0) = e.runs[t] := by
  rw [List.getD_eq_getElem?_getD, List.getElem?_eq_getElem ht]; rfl
def runsOk (e : ECD) (nB short ls : Nat) : Bool := decide (e.upto e.runs.length = nB) && decide (ls ≤ nB) && decide (1 ≤ ls) && (List.range e.runs.length).all fun t => (List.range (e.upto t + (e.runs.getD t (0, 0)).1)).all fun j => !(decide (e.upto t ≤ j)) || decide ((if ls ≤ j then short + 1 else short) = (e.runs.getD t (0, 0)).2)
theorem runs_of {e : ECD} {nB short ls : Nat} (h : runsOk e nB short ls = true) : Runs e nB short ls := by
  unfold runsOk at h
  rw [Bool.and_eq_true, Bool.and_eq_true, Bool.and_eq_true, decide_eq_true_iff, decide_eq_true_iff, decide_eq_true_iff, List.all_eq_true] at h
  obtain ⟨⟨⟨h1, h2⟩, h3⟩, h4⟩ := h
  refine ⟨h1, ?_, h2, h3⟩
  intro t ht j hj1 hj2
  have h5 := h4 t (List.mem_range.2 ht)
  rw [List.all_eq_true, runs_get e t ht] at h5
  have h6 := h5 j (List.mem_range.2 hj2)
  rw [Bool.or_eq_true, decide_eq_true_iff] at h6
  rcases h6 with h6 | h6
  · simp at h6; omega
  · exact h6
def levOk (k i : Nat) : Bool :=
  let e := lev k i
  let nB := e.count
  let short := (e.runs.getD 0 (0, 0)).2
  let ls := (e.runs.getD 0 (0, 0)).1
  runsOk e nB short ls && decide (nB ≤ 6) && decide (1 ≤ short) && decide (short ≤ 120) && decide (words k = short * nB + (nB - ls) + e.ec * nB) && decide (1 ≤ e.ec) && decide (e.ec < 30)
theorem lev_ok : ∀ k, k < 8 → 1 ≤ k → ∀ i, i < 4 → levOk k i = true := by decide
theorem runs_lev (k i : Nat) (hk : 1 ≤ k) (h7 : k ≤ 7) (hi : i < 4) : ∃ short ls, Runs (lev k i) (lev k i).count short ls ∧ (lev k i).count ≤ 6 ∧ 1 ≤ short ∧ short ≤ 120 ∧ words k = short * (lev k i).count + ((lev k i).count - ls) + (lev k i).ec * (lev k i).count ∧ 1 ≤ (lev k i).ec ∧ (lev k i).ec < 30 := by
  have h := lev_ok k (by omega) hk i hi
  unfold levOk at h
  simp only [Bool.and_eq_true, decide_eq_true_iff] at h
  obtain ⟨⟨⟨⟨⟨⟨h1, h2⟩, h3⟩, h4⟩, h5⟩, h6⟩, h7⟩ := h
  exact ⟨_, _, runs_of h1, h2, h3, h4, h5, h6, h7⟩
end

section
theorem info320 : (Tryz.prog.info? 320).map (fun i => (i.zero, i.size, i.bytes)) = some (some (.pointer none), 1, 8) := by kernel_rfl
theorem DBs.congr {w : World} {B0 RB nB m ec : Nat} {dl ps qs : Nat → Nat} {cw cx : Nat → Nat → Nat} (h : DBs w B0 RB nB m ec dl ps qs cw) (he : ∀ j i, j < m → i < dl j + ec → cw j i = cx j i) : DBs w B0 RB nB m ec dl ps qs cx := by
  refine ⟨h.row, h.blk, fun j hj => ?_, h.lo, h.loR, h.inj⟩
  have := h.wor j hj
  have e2 : ((List.range (dl j + ec)).map fun i => u8c (cw j i)) = (List.range (dl j + ec)).map fun i => u8c (cx j i) := by
    apply List.map_congr_left
    intro i hi
    rw [he j i hj (List.mem_range.1 hi)]
  rw [e2] at this
  exact this
/-- The words c, in each block j the first fl j of them. -/
def DBF (w : World) (B0 RB nB ec : Nat) (dl ps qs : Nat → Nat) (c : Nat → Nat → Nat) (fl : Nat → Nat) : Prop := DBs w B0 RB nB nB ec dl ps qs (fun j i => if i < fl j then c j i else 0)
theorem DBF.fill {w : World} {B0 RB nB ec : Nat} {dl ps qs fl : Nat → Nat} {c : Nat → Nat → Nat} (h : DBF w B0 RB nB ec dl ps qs c fl) (j i x : Nat) (fl' : Nat → Nat) (hj : j < nB) (hi : fl j = i) (hl : i < dl j + ec) (hx : c j i = x) (hf : ∀ a, a < nB → fl' a = if a = j then fl a + 1 else fl a) :
    DBF (w.setCell ⟨qs j, i, none⟩ (u8c x)) B0 RB nB ec dl ps qs c fl' := by
  refine (DBs.set h j i x hj hl).congr (fun a b ha hb => ?_)
  rw [hf a ha]
  by_cases e : a = j
  · subst e
    by_cases eb : b = i
    · subst eb; simp [hi, hx]
    · simp only [eb, and_false, if_false, if_pos]
      rw [hi]
      by_cases h3 : b < i
      · rw [if_pos h3, if_pos (by omega)]
      · rw [if_neg h3, if_neg (by omega)]
  · simp [e]
set_option maxRecDepth 100000 in
set_option maxHeartbeats 16000000 in
theorem getBlocks_c {w : World} {V N k l A T nB short ls ec : Nat} {raw : List Nat} (hV : Ver w V N k) (hk1 : 1 ≤ k) (hk7 : k ≤ 7) (hl : l < 4) (hA : Blk w A (raw.map u8c) 5) (hr : raw.length = T) (hT : words k = T) (hT9 : T ≤ 300) (hlt : ∀ x ∈ raw, x < 256)
    (hR : Runs (lev k (lix l)) nB short ls) (hec : (lev k (lix l)).ec = ec) (hB : nB ≤ 6) (hS1 : 1 ≤ short) (hS : short ≤ 120) (he1 : 1 ≤ ec) (he : ec ≤ 30) (hTT : T = short * nB + (nB - ls) + ec * nB) :
    Calls Tryz.prog 195 #[slv A T T, ptv V, intc l] w fun e w' => (∃ RB ps qs, e = .returned (.tuple #[slv RB nB nB, .nilIface]) ∧ DBs w' w.heap.size RB nB nB ec (fun j => if ls ≤ j then short + 1 else short) ps qs (cwAt raw nB short ls (short * nB + (nB - ls)))) ∧ Kept [] w w' := by
  have HV := Lib.hid hV
  have HA := Lib.hid hA
  have HR := Lib.hid hR
  have HRL := Lib.hid hr
  have HLT := Lib.hid (getD_lt256 hlt)
  have HTT := Lib.hid hTT
  have HT := Lib.hid hT
  obtain ⟨o, ho⟩ : ∃ o, 2 * lix l = o := ⟨_, rfl⟩
  obtain ⟨F, hF⟩ : ∃ F, N + 1 + lix l = F := ⟨_, rfl⟩
  have heb := hV.eb (lix l) (lix_lt l)
  have hsm := lev_small k (lix l) hk1 hk7 (lix_lt l)
  obtain ⟨e, hee⟩ : ∃ e, lev k (lix l) = e := ⟨_, rfl⟩
  rw [hee, ho, hF] at heb
  rw [hee] at hsm hec hR
  have HRU := Lib.hid hR
  have HEB := Lib.hid heb
  have HSM := Lib.hid hsm
  have HLV : Hid (Calls Tryz.prog 53 #[ptv V, intc l] w fun q w' => q = .returned (.pointer (some ⟨N + 5, o, none⟩)) ∧ w = w') := Lib.hid (by have := verLevel_c hV l hl; rw [ho] at this; exact this)
  have hcells : ∃ cs, Blk w (N + 5) cs 204 ∧ cs[o]? = some (intc ec) ∧ cs[o + 1]? = some (slv F e.runs.length e.runs.length) := ⟨_, hV.levs, by rw [← hV.levs.cell, ← hec]; exact heb.ec, by rw [← hV.levs.cell]; exact heb.sl⟩
  obtain ⟨cs, hcs1, hcs2, hcs3⟩ := hcells
  have HCS := Lib.hid hcs1
  have HC2 := Lib.hid hcs2
  have HCSS := Lib.hid hcs1
  have HC2S := Lib.hid hcs2
  have HC3 := Lib.hid hcs3
  obtain ⟨nr, hnr⟩ : ∃ nr, e.runs.length = nr := ⟨_, rfl⟩
  have HNR := Lib.hid hnr
  have nri : (nr : Int) ≤ 2 := by have := hsm.len; omega
  have hupB : e.upto nr = nB := by have := hR.all; rw [hnr] at this; exact this
  have HUP := Lib.hid hupB
  have eci : (ec : Int) ≤ 30 := by omega
  have shi : (short : Int) ≤ 120 := by omega
  have shi1 : (1 : Int) ≤ short := by omega
  have Ti : (T : Int) ≤ 300 := by omega
  have nBi : (nB : Int) ≤ 6 := by omega
  have HLS : Hid (1 ≤ ls ∧ ls ≤ nB) := Lib.hid ⟨hR.pos, hR.le⟩
  have hmkR : ∀ w, (Instr.makeSlice 317 (.int .i64 (nB : Int)) (.int .i64 (nB : Int))).run Tryz.prog w = .ok (.slice (some ⟨w.heap.size, 0, none⟩) nB nB) (w.alloc (.cells (List.replicate nB (Value.pointer none)).toArray 320)) := fun w => mkslice Tryz.underlying317 info320 rfl (by omega) _ _ nB nB rfl rfl (by omega) (by omega) w
  clear hV hA hr hT hlt hR hec hTT ho hF heb hsm hee hcs1 hcs2 hcs3 hnr hupB HR
  obtain ⟨dl, hdl⟩ : ∃ dl : Nat → Nat, (fun j => if ls ≤ j then short + 1 else short) = dl := ⟨_, rfl⟩
  have HDL : Hid (∀ j, dl j = if ls ≤ j then short + 1 else short) := Lib.hid (fun j => by rw [← hdl])
  obtain ⟨c, hcc⟩ : ∃ c : Nat → Nat → Nat, cwAt raw nB short ls (short * nB + (nB - ls)) = c := ⟨_, rfl⟩
  have HCC : Hid (∀ j i, c j i = cwAt raw nB short ls (short * nB + (nB - ls)) j i) := Lib.hid (fun j i => by rw [hcc])
  rw [hdl, hcc]
  clear hdl hcc
  go_enter Tryz.func195, Tryz.ntmps195
  go_wp2_with fail
  refine (verWords_c HV.out).mono ?_
  rintro q wx ⟨rfl, rfl⟩
  rw [HT.out]
  go_wp2_with fail
  refine HLV.out.mono ?_
  rintro q wx ⟨rfl, rfl⟩
  go_wp2_with fail
  refine (ecBlocks_c w (N + 5) o (slv F e.runs.length e.runs.length) cs 204 _ _ _ rfl HCS.out HC3.out).mono ?_
  rintro q wx ⟨rfl, rfl⟩
  rw [HNR.out]
  go_wp2_with fail
  go_loopw [9, 45] (fun t i wr => ∃ j : Nat, j ≤ nr ∧ i = intc j ∧ t = intc (e.upto j) ∧ e.upto j ≤ 10 * j ∧ Hid (Kept [] w wr)) (fun _ i _ => (2 - intOf i).toNat)
  case atStart => exact ⟨0, by omega, rfl, rfl, by simp [ECD.upto], Lib.hid (Kept.refl _ _)⟩
  case round =>
    obtain ⟨j, hj, rfl, rfl, hup, hkh⟩ := hrel
    have hk := hkh.out
    have HK0 := Lib.hid hk
    have hji : (j : Int) ≤ 2 := by omega
    by_cases hlt : j < nr
    · have hlti : (j : Int) < (nr : Int) := by omega
      have hlt2 : j < e.runs.length := by rw [HNR.out]; exact hlt
      obtain ⟨r1, r2⟩ := (HEB.out.kept hk).run j hlt2
      have hrs := HSM.out.run _ (List.getElem_mem hlt2)
      have HS := Lib.hid (e.upto_succ j hlt2)
      generalize (e.runs[j]) = q at r1 r2 hrs HS
      obtain ⟨c, d⟩ := q
      have hc : (c : Int) ≤ 10 := by have := hrs.1; simp at this; omega
      have hupi : (e.upto j : Int) ≤ 20 := by omega
      have HU := Lib.hid hup
      simp only at r1 r2 HS
      clear hkh hk hlt2
      go_wp2_with (go_at_call 122; refine (count_c _ _ _).mono ?_; rintro e' wx ⟨rfl, rfl⟩)
      go_roundw
      case rel => exact ⟨j + 1, by omega, by go_num, by rw [HS.out]; go_num, by rw [HS.out]; have := HU.out; omega, Lib.hid (by have := HK0.out; repeat (first | exact this | apply Kept.alloc))⟩
      case measure => simp [intOf]; omega
    · obtain rfl : nr = j := by omega
      rw [HUP.out]
      clear hkh hk hup
      have hmk := hmkR wr
      rw [rep_arr2] at hmk
      have hb0 : Blk (wr.alloc (.cells (Array.replicate nB (Value.pointer none)) 320)) wr.heap.size (List.replicate nB (.pointer none)) 320 := by
        have := Blk.new wr (List.replicate nB (Value.pointer none)) 320
        rw [rep_arr2] at this; exact this
      have hk2 : Kept [] wr (wr.alloc (.cells (Array.replicate nB (Value.pointer none)) 320)) := (Kept.refl _ _).alloc _
      obtain ⟨RB, hRB⟩ : ∃ b, wr.heap.size = b := ⟨_, rfl⟩
      have HRB : Hid (w.heap.size ≤ RB) := Lib.hid (by have := HK0.out.size; omega)
      obtain ⟨w2, hw2⟩ : ∃ v, wr.alloc (.cells (Array.replicate nB (Value.pointer none)) 320) = v := ⟨_, rfl⟩
      rw [hRB, hw2] at hmk
      rw [hw2, hRB] at hb0
      rw [hw2] at hk2
      have HK2 := Lib.hid (HK0.out.trans0 hk2)
      have HD0 : Hid (∃ ps qs, DBs w2 w.heap.size RB nB 0 ec dl ps qs (fun _ _ => 0)) := Lib.hid ⟨fun _ => 0, fun _ => 0, by
        refine ⟨?_, by intro j h; omega, by intro j h; omega, by intro j h; omega, HRB.out, by intro i j h; omega⟩
        have e2 : ((List.range nB).map fun j => if j < 0 then ptv 0 else Value.pointer none) = List.replicate nB (.pointer none) := by
          apply List.ext_getElem
          · simp
          · intro i h1 h2; simp
        rw [e2]; exact hb0⟩
      clear hw2 hRB hb0 hk2 hmkR
      go_wp2_with fail
      clear hmk
      go_loopw [14, 58] (fun t i wq => ∃ j : Nat, j ≤ nr ∧ i = intc j ∧ t = intc (e.upto j) ∧ e.upto j ≤ 10 * j ∧ Hid (Kept [] w wq ∧ ∃ ps qs, DBs wq w.heap.size RB nB (e.upto j) ec dl ps qs (fun _ _ => 0))) (fun _ i _ => (2 - intOf i).toNat)
      case atStart => exact ⟨0, by omega, rfl, rfl, by simp [ECD.upto], Lib.hid ⟨HK2.out, HD0.out⟩⟩
      case round =>
        clear HD0 HK2
        obtain ⟨j, hj, rfl, rfl, hup, hst⟩ := hrel
        have hji : (j : Int) ≤ 2 := by omega
        have HKQ := Lib.hid hst.out.1
        have HDQ := Lib.hid hst.out.2
        by_cases hlt : j < nr
        · have hlti : (j : Int) < (nr : Int) := by omega
          have hlt2 : j < e.runs.length := by rw [HNR.out]; exact hlt
          obtain ⟨r1, r2⟩ := (HEB.out.kept HKQ.out).run j hlt2
          have hrs := HSM.out.run _ (List.getElem_mem hlt2)
          have hsc := e.upto_succ j hlt2
          have hea := HRU.out.each j hlt2
          obtain ⟨q, hq⟩ : ∃ q, e.runs[j] = q := ⟨_, rfl⟩
          rw [hq] at r1 r2 hrs hsc hea
          obtain ⟨cn, d⟩ := q
          simp only at r1 r2 hsc hea
          have hub : e.upto j + cn ≤ nB := by
            rw [← hsc, ← HUP.out]
            rcases (show nr = j + 1 ∨ nr = j + 2 by have := HSM.out.len; have := HNR.out; omega) with h | h
            · rw [h]; exact Nat.le_refl _
            · rw [h, e.upto_succ (j + 1) (by have := HNR.out; omega)]; omega
          have hcn : cn ≤ 10 ∧ d ≤ 200 := hrs
          have cni : (cn : Int) ≤ 10 := by omega
          have di : (d : Int) ≤ 200 := by omega
          have HSC := Lib.hid hsc
          have HEA := Lib.hid hea
          have HUBB := Lib.hid hub
          have HU := Lib.hid hup
          obtain ⟨u0, hu0⟩ : ∃ u0, e.upto j = u0 := ⟨_, rfl⟩
          have HU0 := Lib.hid hu0
          rw [hu0]
          obtain ⟨n, hn⟩ : ∃ n, d + ec = n := ⟨_, rfl⟩
          have hni : (ec : Int) + (d : Int) = (n : Int) := by omega
          have n9 : n ≤ 230 := by omega
          have n9i : (n : Int) ≤ 230 := by omega
          have HNE := Lib.hid hn
          have hmk : ∀ w, (Instr.makeSlice 35 (.int .i64 (n : Int)) (.int .i64 (n : Int))).run Tryz.prog w = .ok (.slice (some ⟨w.heap.size, 0, none⟩) n n) (w.alloc (.cells (Array.replicate n (Value.int .u8 0)) 5)) := fun w => by have := mk_bytes (n : Int) (n : Int) n n rfl rfl (by omega) (by omega) w; rw [rep_arr2] at this; exact this
          clear hst hlt2 hrs hsc hea hq hup hu0 hub hcn hn
          have hbX : Blk (wr.alloc (Obj.cells #[Value.int .i64 (cn : Int), Value.int .i64 (d : Int)] 217)) wr.heap.size [intc cn, intc d] 217 := Blk.new wr [intc cn, intc d] 217
          have hk3 : Kept [] wr (wr.alloc (Obj.cells #[Value.int .i64 (cn : Int), Value.int .i64 (d : Int)] 217)) := (Kept.refl _ _).alloc _
          have HK3 := Lib.hid (HKQ.out.trans0 hk3)
          have HD3 : Hid (∃ ps qs, DBs (wr.alloc (Obj.cells #[Value.int .i64 (cn : Int), Value.int .i64 (d : Int)] 217)) w.heap.size RB nB u0 ec dl ps qs (fun _ _ => 0)) := Lib.hid (by obtain ⟨ps, qs, h⟩ := HDQ.out; rw [HU0.out] at h; exact ⟨ps, qs, h.kept hk3⟩)
          have HB3 := Lib.hid hbX
          have HUL : Hid (u0 ≤ 20) := Lib.hid (by have := HU.out; have := HU0.out; omega)
          clear hbX hk3
          go_wp2_with fail
          clear r1 r2
          generalize wr.alloc (Obj.cells #[Value.int .i64 (cn : Int), Value.int .i64 (d : Int)] 217) = w3 at HK3 HD3 HB3 ⊢
          generalize wr.heap.size = X at HB3 ⊢
          go_loopw [14, 17] (fun s14 s17 wz => ∃ i m : Nat, i ≤ cn ∧ m = u0 + i ∧ s14 = num m ∧ s17 = num i ∧ Hid (Kept [] w wz ∧ Blk wz X [intc cn, intc d] 217 ∧ ∃ ps qs, DBs wz w.heap.size RB nB m ec dl ps qs (fun _ _ => 0))) (fun _ i _ => (cn - intOf i).toNat)
          case atStart => exact ⟨0, u0, by omega, rfl, rfl, rfl, Lib.hid ⟨HK3.out, HB3.out, HD3.out⟩⟩
          case round =>
            clear HD3 HK3 HB3
            obtain ⟨i, m, hi, hm, rfl, rfl, hst⟩ := hrel
            have HKZ := Lib.hid hst.out.1
            have HBZ := Lib.hid hst.out.2.1
            have HDZ := Lib.hid hst.out.2.2
            have HM := Lib.hid hm
            have m9 : (m : Int) ≤ 30 := by have := HUL.out; omega
            have ii : (i : Int) ≤ cn := by omega
            clear hst hm
            by_cases hlt : i < cn
            · have hlti : (i : Int) < cn := by omega
              have c0 := HBZ.out.at (i := 0) rfl
              have c1 := HBZ.out.at (i := 1) rfl
              go_wp2_with fail
              refine (count_c _ _ _).mono ?_
              rintro q wx ⟨rfl, rfl⟩
              clear c0 c1
              have hk4 : Kept [] wr (wr.alloc (Obj.cells #[Value.int .i64 (cn : Int), Value.int .i64 (d : Int)] 217)) := (Kept.refl _ _).alloc _
              have HK4 := Lib.hid (HKZ.out.trans0 hk4)
              have HB4 := Lib.hid (hk4.blk HBZ.out (by simp))
              have HD4 := HDZ
              have HKr := Lib.hid hk4
              clear hk4
              generalize wr.alloc (Obj.cells #[Value.int .i64 (cn : Int), Value.int .i64 (d : Int)] 217) = w4 at HK4 HB4 HKr ⊢
              have c0 := HB4.out.at (i := 0) rfl
              have c1 := HB4.out.at (i := 1) rfl
              go_wp2_with fail
              refine (dataWords_c _ _ _).mono ?_
              rintro q wx ⟨rfl, rfl⟩
              clear c0 c1
              have hk5 : Kept [] w4 (w4.alloc (Obj.cells #[Value.int .i64 (cn : Int), Value.int .i64 (d : Int)] 217)) := (Kept.refl _ _).alloc _
              have HK5 := Lib.hid (HK4.out.trans0 hk5)
              have HB5 := Lib.hid (hk5.blk HB4.out (by simp))
              have HK5r := Lib.hid (HKr.out.trans0 hk5)
              clear hk5
              generalize w4.alloc (Obj.cells #[Value.int .i64 (cn : Int), Value.int .i64 (d : Int)] 217) = w5 at HK5 HB5 HK5r ⊢
              go_wp2_with fail
              refine (ecWords_c w5 (N + 5) o ec cs 204 (HK5.out.blk HCS.out (by simp)) HC2.out).mono ?_
              rintro q wx ⟨rfl, rfl⟩
              go_wp2_with fail
              refine (newBlock_c d w5.heap.size n _).mono ?_
              rintro q w6 ⟨rfl, hP6, hk6, hs6⟩
              have hk7 : Kept [] w5 (w5.alloc (.cells (Array.replicate n (Value.int .u8 0)) 5)) := (Kept.refl _ _).alloc _
              have hb7 : Blk (w5.alloc (.cells (Array.replicate n (Value.int .u8 0)) 5)) w5.heap.size (List.replicate n (u8c 0)) 5 := by
                have := Blk.new w5 (List.replicate n (u8c 0)) 5
                rw [rep_arr2] at this; exact this
              have HB6 := Lib.hid (hk6.blk hb7 (by simp))
              have HP6 := Lib.hid hP6
              have HZ6 : Hid (w5.heap.size ≤ (w5.alloc (.cells (Array.replicate n (Value.int .u8 0)) 5)).heap.size) := Lib.hid hk7.size
              have HK6r := Lib.hid ((HK5r.out.trans0 hk7).trans0 hk6)
              have HK6 := Lib.hid ((HK5.out.trans0 hk7).trans0 hk6)
              have HBX := Lib.hid ((hk7.blk HB5.out (by simp)))
              have HBX6 := Lib.hid (hk6.blk HBX.out (by simp))
              clear hP6 hk6 hs6 hk7 hb7
              generalize (w5.alloc (.cells (Array.replicate n (Value.int .u8 0)) 5)).heap.size = P at HP6 HZ6 ⊢
              have h5r := HK5r.out.size
              have HQ5 : Hid (wr.heap.size ≤ w5.heap.size) := Lib.hid h5r
              clear h5r
              generalize w5.heap.size = Q at HB6 HP6 HZ6 HQ5 ⊢
              have hdz := HDZ.out
              obtain ⟨ps, qs, hdb⟩ := hdz
              have hrow := HK6r.out.blk hdb.row (by simp)
              have HDB := Lib.hid hdb
              have HMB : Hid (m < nB) := Lib.hid (by have := HUBB.out; have := HU0.out; have := HM.out; omega)
              have hcl : w6.cell? ⟨RB, m, none⟩ = some (.pointer none) := hrow.at (by rw [List.getElem?_map, List.getElem?_range HMB.out]; simp)
              have hfr := hrow.free m
              have mi : (m : Int) < nB := by have := HMB.out; omega
              clear hdb hrow
              go_wp2_with fail
              go_roundw
              case rel =>
                refine ⟨i + 1, m + 1, by omega, by have := HM.out; omega, by go_num, by go_num, Lib.hid ⟨HK6.out.setCell (.inr HRB.out) _, HBX6.out.setT (HK6r.out.blk HDB.out.row (by simp)) (by decide) _, _, _, HDB.out.snoc HK6r.out HP6.out HB6.out HQ5.out (by have := HQ5.out; have := HZ6.out; omega) HMB.out ?_ HNE.out.symm HKZ.out.size (fun _ => rfl)⟩⟩
                rw [HDL.out m]
                exact HEA.out m (by have := HM.out; have := HU0.out; omega) (by have := HM.out; have := HU0.out; omega)
              case measure => simp [intOf]; omega
            · obtain rfl : cn = i := by omega
              have c0 := HBZ.out.at (i := 0) rfl
              have c1 := HBZ.out.at (i := 1) rfl
              go_wp2_with fail
              refine (count_c _ _ _).mono ?_
              rintro q wx ⟨rfl, rfl⟩
              clear c0 c1
              have hk4 : Kept [] wr (wr.alloc (Obj.cells #[Value.int .i64 (cn : Int), Value.int .i64 (d : Int)] 217)) := (Kept.refl _ _).alloc _
              have HK4 := Lib.hid (HKZ.out.trans0 hk4)
              have HKr := Lib.hid hk4
              clear hk4
              go_wp2_with fail
              go_roundw
              case rel =>
                refine ⟨j + 1, by omega, by go_num, by rw [HSC.out, HU0.out, HM.out], by rw [HSC.out]; have := HU.out; omega, Lib.hid ⟨HK4.out, ?_⟩⟩
                obtain ⟨ps, qs, hdb⟩ := HDZ.out
                rw [HSC.out, HU0.out, ← HM.out]
                exact ⟨ps, qs, hdb.kept HKr.out⟩
              case measure => simp [intOf]; omega
        · obtain rfl : nr = j := by omega
          have hdd := HDQ.out
          rw [HUP.out] at hdd ⊢
          obtain ⟨ps, qs, hdbs⟩ := hdd
          have HDB : Hid (DBF wr w.heap.size RB nB ec dl ps qs c (fun _ => 0)) := Lib.hid (hdbs.congr (fun a b _ _ => by simp))
          clear hst HDQ hdbs hup HEB HSM HLV HCS HC2 HC3 HRU HUP
          have hd0 : dl 0 = short := by rw [HDL.out 0, if_neg (by have := HLS.out; omega)]
          obtain ⟨sn, hsn⟩ : ∃ sn, short + ec = sn := ⟨_, rfl⟩
          have hsub : (sn : Int) - (ec : Int) = (short : Int) := by omega
          have sni : (sn : Int) ≤ 150 := by omega
          have HSN := Lib.hid hsn
          have nB0 : 0 < nB := by have := HLS.out; omega
          have nB0i : (0 : Int) < nB := by omega
          have z1 := HDB.out.row_at 0 nB0 (Nat.le_refl _)
          have z2 := (HDB.out.blk 0 nB0).at (i := 1) rfl
          rw [hd0, hsn] at z2
          generalize ps 0 = p0 at z1 z2
          generalize qs 0 = q0 at z2
          obtain ⟨w8, rfl⟩ : ∃ v : World, v = wr := ⟨_, rfl⟩
          clear hd0 hsn
          go_wp2_with fail
          go_loopw [21] (fun s21 wz => ∃ q : Nat, ls ≤ q + 1 ∧ q < nB ∧ s21 = num q ∧ w8 = wz) (fun i _ => (intOf i + 1).toNat)
          case atStart => exact ⟨nB - 1, by have := HLS.out; omega, by omega, by go_num, rfl⟩
          case round =>
            obtain ⟨q, hq1, hq2, rfl, rfl⟩ := hrel
            have y1 := HDB.out.row_at q hq2 (Nat.le_refl _)
            have y2 := (HDB.out.blk q hq2).at (i := 1) rfl
            have hq2i : (q : Int) < nB := by omega
            by_cases hls : ls ≤ q
            · obtain ⟨q', rfl⟩ : ∃ q', q = q' + 1 := ⟨q - 1, by have := HLS.out; omega⟩
              have hn : dl (q' + 1) + ec = sn + 1 := by rw [HDL.out, if_pos hls]; have := HSN.out; omega
              rw [hn] at y2
              have hne : ((((sn + 1 : Nat) : Int)) == (sn : Int)) = false := by simp; omega
              generalize ps (q' + 1) = pq at y1 y2
              generalize qs (q' + 1) = qq at y2
              obtain ⟨n1, hn1⟩ : ∃ n1, sn + 1 = n1 := ⟨_, rfl⟩
              rw [hn1] at y2 hne
              clear hn hn1 z1 z2
              go_wp2_with fail
              go_roundw
              case rel => exact ⟨q', by omega, by omega, by go_num, by first | rfl | trivial⟩
              case measure => simp [intOf]; omega
            · have hn : dl q + ec = sn := by rw [HDL.out, if_neg hls]; have := HSN.out; omega
              rw [hn] at y2
              have hlq : (q : Int) + 1 = (ls : Int) := by omega
              have HDQ := Lib.hid HDB.out
              have lsi : (ls : Int) ≤ nB := by omega
              generalize ps q = pq at y1 y2
              generalize qs q = qq at y2
              clear hn
              go_wp2_with fail
              refine (ecWords_c w8 (N + 5) o ec cs 204 (HKQ.out.blk HCSS.out (by simp)) HC2S.out).mono ?_
              rintro q9 wx ⟨rfl, rfl⟩
              clear y1 y2 z1 z2
              go_wp2_with fail
              have HDC : Hid (∃ ps qs, DBF w8 w.heap.size RB nB ec dl ps qs c (fun _ => 0)) := Lib.hid ⟨ps, qs, HDB.out⟩
              clear HDB HDQ hq1 hq2 hq2i hls hlq
              go_loopw [24, 25] (fun s24 s25 wz => ∃ i off : Nat, i ≤ short ∧ off = i * nB ∧ s24 = num off ∧ s25 = num i ∧ Hid (Kept [] w wz ∧ ∃ ps qs, DBF wz w.heap.size RB nB ec dl ps qs c (fun _ => i))) (fun _ i _ => (short - intOf i).toNat)
              case atStart => exact ⟨0, 0, by omega, by omega, rfl, rfl, Lib.hid ⟨HKQ.out, HDC.out⟩⟩
              case round =>
                clear HDC
                obtain ⟨i, off, hi, hoff, rfl, rfl, hst⟩ := hrel
                have HOF := Lib.hid hoff
                have HKI := Lib.hid hst.out.1
                have HDI := Lib.hid hst.out.2
                have hii : (i : Int) ≤ short := by omega
                clear hoff hst
                by_cases hlt : i < short
                · have hlti : (i : Int) < short := by omega
                  have HDJ : Hid (∃ ps qs, DBF wr w.heap.size RB nB ec dl ps qs c (fun a => if a < 0 then i + 1 else i)) := Lib.hid (by obtain ⟨ps, qs, h⟩ := HDI.out; exact ⟨ps, qs, DBs.congr h (fun a b _ _ => by simp)⟩)
                  go_wp2_with fail
                  go_loopw [24, 26] (fun s24 s26 wy => ∃ j of : Nat, j ≤ nB ∧ of = off + j ∧ s24 = num of ∧ s26 = num j ∧ Hid (Kept [] w wy ∧ ∃ ps qs, DBF wy w.heap.size RB nB ec dl ps qs c (fun a => if a < j then i + 1 else i))) (fun _ i _ => (nB - intOf i).toNat)
                  case atStart => exact ⟨0, off, by omega, by omega, rfl, rfl, Lib.hid ⟨HKI.out, HDJ.out⟩⟩
                  case round =>
                    clear HDJ HDI
                    obtain ⟨j, of, hj, hof, rfl, rfl, hst⟩ := hrel
                    have HOJ := Lib.hid hof
                    have HKJ := Lib.hid hst.out.1
                    have HDJ := Lib.hid hst.out.2
                    have hjj : (j : Int) ≤ nB := by omega
                    clear hof hst
                    by_cases hlj : j < nB
                    · have hlji : (j : Int) < nB := by omega
                      obtain ⟨ps, qs, hdj⟩ := HDJ.out
                      have hofT : of < T := by
                        have h1 := Nat.mul_le_mul_right nB (show i + 1 ≤ short by omega)
                        rw [Nat.succ_mul] at h1
                        have := HTT.out; have := HOJ.out; have := HOF.out; omega
                      have HFL : Hid (∀ x, raw.getD of 0 = x → DBF (wr.setCell ⟨qs j, i, none⟩ (u8c x)) w.heap.size RB nB ec dl ps qs c (fun a => if a < j + 1 then i + 1 else i)) := Lib.hid (fun x hx => by
                        refine DBF.fill hdj j i x _ hlj (by simp) (by rw [HDL.out]; split <;> omega) ?_ ?_
                        · rw [HCC.out, ← hx]; unfold cwAt; rw [if_pos hlt, HOJ.out, HOF.out]
                        · intro a ha
                          by_cases e1 : a = j
                          · subst e1; simp
                          · by_cases e2 : a < j
                            · simp [e1, e2, show a < j + 1 by omega]
                            · simp [e1, e2, show ¬ a < j + 1 by omega])
                      have HQB : Hid (w.heap.size ≤ qs j) := Lib.hid (hdj.lo j hlj)
                      have y1 := hdj.row_at j hlj (Nat.le_refl _)
                      have y2 := (hdj.blk j hlj).at (i := 1) rfl
                      have hil : i < dl j + ec := by rw [HDL.out]; split <;> omega
                      have y3 := hdj.word_at j i hlj hil
                      have y4 := (hdj.wor j hlj).free i
                      obtain ⟨n1, hn1⟩ : ∃ n1, dl j + ec = n1 := ⟨_, rfl⟩
                      rw [hn1] at y2 hil
                      have hili : (i : Int) < n1 := by omega
                      generalize ps j = pj at y1 y2
                      obtain ⟨qj, hqj⟩ : ∃ qj, qs j = qj := ⟨_, rfl⟩
                      have HFQ := HFL.out
                      have HQQ := HQB.out
                      rw [hqj] at y2 y3 y4 HFQ HQQ
                      have HFJ := Lib.hid HFQ
                      have HQJ := Lib.hid HQQ
                      unfold u8c at y3
                      have y5 := (HKJ.out.blk HA.out (by simp)).at (u8_get raw of (by rw [HRL.out]; exact hofT))
                      obtain ⟨x, hx⟩ : ∃ x, raw.getD of 0 = x := ⟨_, rfl⟩
                      have HXX := Lib.hid hx
                      rw [hx] at y5
                      unfold u8c at y5
                      have hofi : (of : Int) < T := by omega
                      clear HFL HQB HFQ HQQ hn1 hqj hx hdj hofT
                      go_wp2_with fail
                      go_region
                      all_goals go_wp2_with fail
                      all_goals exact ⟨⟨j + 1, of + 1, by omega, by have := HOJ.out; omega, by go_num, by go_num, Lib.hid ⟨(HKJ.out.setCell (.inr HQJ.out) _).drew, ps, qs, DBs.kept (HFJ.out x HXX.out) ((Kept.refl _ _).drew)⟩⟩, by simp [intOf]; omega⟩
                    · obtain rfl : nB = j := by omega
                      go_wp2_with fail
                      go_roundw
                      case rel => exact ⟨i + 1, of, by omega, by have := HOJ.out; have := HOF.out; rw [Nat.succ_mul]; omega, rfl, by go_num, Lib.hid ⟨HKJ.out, by obtain ⟨ps, qs, h⟩ := HDJ.out; exact ⟨ps, qs, DBs.congr h (fun a b ha _ => by simp [ha])⟩⟩⟩
                      case measure => simp [intOf]; omega
                · obtain rfl : short = i := by omega
                  have HDJ : Hid (∃ ps qs, DBF wr w.heap.size RB nB ec dl ps qs c (fun a => if ls ≤ a ∧ a < ls then short + 1 else short)) := Lib.hid (by obtain ⟨ps, qs, h⟩ := HDI.out; exact ⟨ps, qs, DBs.congr h (fun a b _ _ => by simp [show ¬ (ls ≤ a ∧ a < ls) by omega])⟩)
                  go_wp2_with fail
                  go_loopw [24, 27] (fun s24 s27 wy => ∃ j of : Nat, ls ≤ j ∧ j ≤ nB ∧ of = off + (j - ls) ∧ s24 = num of ∧ s27 = num j ∧ Hid (Kept [] w wy ∧ ∃ ps qs, DBF wy w.heap.size RB nB ec dl ps qs c (fun a => if ls ≤ a ∧ a < j then short + 1 else short))) (fun _ i _ => (nB - intOf i).toNat)
                  case atStart => exact ⟨ls, off, by omega, by have := HLS.out; omega, by omega, rfl, rfl, Lib.hid ⟨HKI.out, HDJ.out⟩⟩
                  case round =>
                    clear HDJ HDI
                    obtain ⟨j, of, hlsj, hj, hof, rfl, rfl, hst⟩ := hrel
                    have HOJ := Lib.hid hof
                    have HLJ := Lib.hid hlsj
                    have HKJ := Lib.hid hst.out.1
                    have HDJ := Lib.hid hst.out.2
                    have hjj : (j : Int) ≤ nB := by omega
                    clear hof hst
                    by_cases hlj : j < nB
                    · have hlji : (j : Int) < nB := by omega
                      obtain ⟨ps, qs, hdj⟩ := HDJ.out
                      have hofT : of < T := by
                        have := HTT.out; have := HOJ.out; have := HOF.out; omega
                      have HFL : Hid (∀ x, raw.getD of 0 = x → DBF (wr.setCell ⟨qs j, short, none⟩ (u8c x)) w.heap.size RB nB ec dl ps qs c (fun a => if ls ≤ a ∧ a < j + 1 then short + 1 else short)) := Lib.hid (fun x hx => by
                        refine DBF.fill hdj j (short) x _ hlj (by simp) (by rw [HDL.out, if_pos HLJ.out]; omega) ?_ ?_
                        · rw [HCC.out, ← hx]; unfold cwAt; rw [if_neg (by omega), if_pos ⟨rfl, HLJ.out⟩, HOJ.out, HOF.out]
                        · intro a ha
                          by_cases e1 : a = j
                          · subst e1; simp [HLJ.out]
                          · by_cases e2 : ls ≤ a ∧ a < j
                            · simp [e1, e2, show a < j + 1 by omega]
                            · simp [e1, e2, show ¬ (ls ≤ a ∧ a < j + 1) by omega])
                      have HQB : Hid (w.heap.size ≤ qs j) := Lib.hid (hdj.lo j hlj)
                      have y1 := hdj.row_at j hlj (Nat.le_refl _)
                      have y2 := (hdj.blk j hlj).at (i := 1) rfl
                      have hil : short < dl j + ec := by rw [HDL.out, if_pos HLJ.out]; omega
                      have y3 := hdj.word_at j (short) hlj hil
                      have y4 := (hdj.wor j hlj).free (short)
                      obtain ⟨n1, hn1⟩ : ∃ n1, dl j + ec = n1 := ⟨_, rfl⟩
                      rw [hn1] at y2 hil
                      obtain ⟨ix, hix⟩ : ∃ ix, short = ix := ⟨_, rfl⟩
                      have HFP := HFL.out
                      rw [hix] at y3 y4 hil HFP
                      have HIX := Lib.hid hix
                      have hili : (ix : Int) < n1 := by omega
                      generalize ps j = pj at y1 y2
                      obtain ⟨qj, hqj⟩ : ∃ qj, qs j = qj := ⟨_, rfl⟩
                      have HQQ := HQB.out
                      rw [hqj] at y2 y3 y4 HFP HQQ
                      have HFJ := Lib.hid HFP
                      have HQJ := Lib.hid HQQ
                      unfold u8c at y3
                      have y5 := (HKJ.out.blk HA.out (by simp)).at (u8_get raw of (by rw [HRL.out]; exact hofT))
                      obtain ⟨x, hx⟩ : ∃ x, raw.getD of 0 = x := ⟨_, rfl⟩
                      have HXX := Lib.hid hx
                      rw [hx] at y5
                      unfold u8c at y5
                      have hofi : (of : Int) < T := by omega
                      clear HFL HQB HFP HQQ hn1 hqj hx hdj hofT hlsj
                      obtain rfl : short = ix := HIX.out
                      go_wp2_with fail
                      go_region
                      all_goals go_wp2_with fail
                      all_goals exact ⟨⟨j + 1, of + 1, by have := HLJ.out; omega, by omega, by have := HOJ.out; have := HLJ.out; omega, by go_num, by go_num, Lib.hid ⟨(HKJ.out.setCell (.inr HQJ.out) _).drew, ps, qs, DBs.kept (HFJ.out x HXX.out) ((Kept.refl _ _).drew)⟩⟩, by simp [intOf]; omega⟩
                    · obtain rfl : nB = j := by omega
                      have HDD : Hid (∃ ps qs, DBF wr w.heap.size RB nB ec dl ps qs c (fun a => short + 0 + if ls ≤ a then 1 else 0)) := Lib.hid (by
                        obtain ⟨ps, qs, h⟩ := HDJ.out
                        refine ⟨ps, qs, DBs.congr h (fun a b ha _ => ?_)⟩
                        by_cases e : ls ≤ a
                        · simp [e, ha]
                        · simp [e])
                      obtain ⟨ps0, qs0, hd9⟩ := HDJ.out
                      have z1 := hd9.row_at 0 nB0 (Nat.le_refl _)
                      have z2 := (hd9.blk 0 nB0).at (i := 1) rfl
                      rw [show dl 0 + ec = sn from by rw [HDL.out 0, if_neg (by have := HLS.out; omega)]; exact HSN.out] at z2
                      generalize ps0 0 = pz at z1 z2
                      generalize qs0 0 = qz at z2
                      have HOG : Hid (of = short * nB + (nB - ls)) := Lib.hid (by have := HOJ.out; have := HOF.out; omega)
                      clear hd9 HDJ hlsj hi hii hlt HOJ HLJ
                      go_wp2_with fail
                      clear z1 z2
                      go_loopw [24, 29] (fun s24 s29 wz => ∃ t i og : Nat, t ≤ ec ∧ i = short + t ∧ og = of + t * nB ∧ s24 = num og ∧ s29 = num i ∧ Hid (Kept [] w wz ∧ ∃ ps qs, DBF wz w.heap.size RB nB ec dl ps qs c (fun a => short + t + if ls ≤ a then 1 else 0))) (fun _ i _ => (sn - intOf i).toNat)
                      case atStart => exact ⟨0, short, of, by omega, by omega, by omega, rfl, rfl, Lib.hid ⟨HKJ.out, HDD.out⟩⟩
                      case round =>
                        clear HDD HKJ HKI
                        obtain ⟨t, i, og, ht, hi, hog, rfl, rfl, hst⟩ := hrel
                        have HIT := Lib.hid hi
                        have HOI := Lib.hid hog
                        have HKI := Lib.hid hst.out.1
                        have HDI := Lib.hid hst.out.2
                        have hii : (i : Int) ≤ sn := by have := HSN.out; omega
                        clear hst hog
                        by_cases hlt : t < ec
                        · have hlti : (i : Int) < sn := by have := HSN.out; omega
                          have HDJ : Hid (∃ ps qs, DBF wr w.heap.size RB nB ec dl ps qs c (fun a => (if a < 0 then short + t + 1 else short + t) + if ls ≤ a then 1 else 0)) := Lib.hid (by obtain ⟨ps, qs, h⟩ := HDI.out; exact ⟨ps, qs, DBs.congr h (fun a b _ _ => by simp)⟩)
                          clear hi
                          go_wp2_with fail
                          go_loopw [24, 30] (fun s24 s30 wy => ∃ j oh : Nat, j ≤ nB ∧ oh = og + j ∧ s24 = num oh ∧ s30 = num j ∧ Hid (Kept [] w wy ∧ ∃ ps qs, DBF wy w.heap.size RB nB ec dl ps qs c (fun a => (if a < j then short + t + 1 else short + t) + if ls ≤ a then 1 else 0))) (fun _ i _ => (nB - intOf i).toNat)
                          case atStart => exact ⟨0, og, by omega, by omega, rfl, rfl, Lib.hid ⟨HKI.out, HDJ.out⟩⟩
                          case round =>
                            clear HDJ HDI HKI
                            obtain ⟨j, oh, hj, hoh, rfl, rfl, hst⟩ := hrel
                            have HOH := Lib.hid hoh
                            have HKJ := Lib.hid hst.out.1
                            have HDJ := Lib.hid hst.out.2
                            have hjj : (j : Int) ≤ nB := by omega
                            clear hoh hst
                            by_cases hlj : j < nB
                            · have hlji : (j : Int) < nB := by omega
                              by_cases hlq : ls ≤ j
                              · have hlqi : (ls : Int) ≤ (j : Int) := by omega
                                obtain ⟨ps, qs, hdj⟩ := HDJ.out
                                have hofT : oh < T := by
                                  have h1 := Nat.mul_le_mul_right nB (show t + 1 ≤ ec by omega)
                                  rw [Nat.succ_mul] at h1
                                  have := HTT.out; have := HOI.out; have := HOG.out; have := HOH.out; omega
                                have HFL : Hid (∀ x, raw.getD oh 0 = x → DBF (wr.setCell ⟨qs j, short + t + 1, none⟩ (u8c x)) w.heap.size RB nB ec dl ps qs c (fun a => (if a < j + 1 then short + t + 1 else short + t) + if ls ≤ a then 1 else 0)) := Lib.hid (fun x hx => by
                                  refine DBF.fill hdj j (short + t + 1) x _ hlj (by simp [hlq]) (by rw [HDL.out, if_pos hlq]; omega) ?_ ?_
                                  · rw [HCC.out, ← hx]; unfold cwAt; rw [if_neg (by omega), if_neg (by omega), if_pos hlq, show short + t + 1 - (short + 1) = t by omega, HOH.out, HOI.out, HOG.out]
                                  · intro a ha
                                    by_cases e1 : a = j
                                    · subst e1; simp; omega
                                    · by_cases e2 : a < j
                                      · simp [e1, e2, show a < j + 1 by omega]
                                      · simp [e1, e2, show ¬ a < j + 1 by omega])
                                have HQB : Hid (w.heap.size ≤ qs j) := Lib.hid (hdj.lo j hlj)
                                have y1 := hdj.row_at j hlj (Nat.le_refl _)
                                have y2 := (hdj.blk j hlj).at (i := 1) rfl
                                have hil : short + t + 1 < dl j + ec := by rw [HDL.out, if_pos hlq]; omega
                                have y3 := hdj.word_at j (short + t + 1) hlj hil
                                have y4 := (hdj.wor j hlj).free (short + t + 1)
                                obtain ⟨n1, hn1⟩ : ∃ n1, dl j + ec = n1 := ⟨_, rfl⟩
                                rw [hn1] at y2 hil
                                obtain ⟨ix, hix⟩ : ∃ ix, short + t + 1 = ix := ⟨_, rfl⟩
                                have HFP := HFL.out
                                rw [hix] at y3 y4 hil HFP
                                have HIX := Lib.hid hix
                                have hili : (ix : Int) < n1 := by omega
                                generalize ps j = pj at y1 y2
                                obtain ⟨qj, hqj⟩ : ∃ qj, qs j = qj := ⟨_, rfl⟩
                                have HQQ := HQB.out
                                rw [hqj] at y2 y3 y4 HFP HQQ
                                have HFJ := Lib.hid HFP
                                have HQJ := Lib.hid HQQ
                                unfold u8c at y3
                                have y5 := (HKJ.out.blk HA.out (by simp)).at (u8_get raw oh (by rw [HRL.out]; exact hofT))
                                obtain ⟨x, hx⟩ : ∃ x, raw.getD oh 0 = x := ⟨_, rfl⟩
                                have HXX := Lib.hid hx
                                rw [hx] at y5
                                unfold u8c at y5
                                have hofi : (oh : Int) < T := by omega
                                clear HFL HQB HFP HQQ hn1 hqj hx hdj hofT
                                have hixi : (i : Int) + 1 = (ix : Int) := by have := HIX.out; have := HIT.out; omega
                                clear hlq
                                go_wp2_with fail
                                go_region
                                all_goals go_wp2_with fail
                                all_goals exact ⟨⟨j + 1, oh + 1, by omega, by have := HOH.out; omega, by go_num, by go_num, Lib.hid ⟨(HKJ.out.setCell (.inr HQJ.out) _).drew, ps, qs, by have hz := HIX.out; subst hz; exact DBs.kept (HFJ.out x HXX.out) ((Kept.refl _ _).drew)⟩⟩, by simp [intOf]; omega⟩
                              · have hlqi : ¬ (ls : Int) ≤ (j : Int) := by omega
                                obtain ⟨ps, qs, hdj⟩ := HDJ.out
                                have hofT : oh < T := by
                                  have h1 := Nat.mul_le_mul_right nB (show t + 1 ≤ ec by omega)
                                  rw [Nat.succ_mul] at h1
                                  have := HTT.out; have := HOI.out; have := HOG.out; have := HOH.out; omega
                                have HFL : Hid (∀ x, raw.getD oh 0 = x → DBF (wr.setCell ⟨qs j, short + t, none⟩ (u8c x)) w.heap.size RB nB ec dl ps qs c (fun a => (if a < j + 1 then short + t + 1 else short + t) + if ls ≤ a then 1 else 0)) := Lib.hid (fun x hx => by
                                  refine DBF.fill hdj j (short + t) x _ hlj (by simp [hlq]) (by rw [HDL.out, if_neg hlq]; omega) ?_ ?_
                                  · rw [HCC.out, ← hx]; unfold cwAt; rw [if_neg (by omega), if_neg (by omega), if_neg hlq, show short + t - short = t by omega, HOH.out, HOI.out, HOG.out]
                                  · intro a ha
                                    by_cases e1 : a = j
                                    · subst e1; simp; omega
                                    · by_cases e2 : a < j
                                      · simp [e1, e2, show a < j + 1 by omega]
                                      · simp [e1, e2, show ¬ a < j + 1 by omega])
                                have HQB : Hid (w.heap.size ≤ qs j) := Lib.hid (hdj.lo j hlj)
                                have y1 := hdj.row_at j hlj (Nat.le_refl _)
                                have y2 := (hdj.blk j hlj).at (i := 1) rfl
                                have hil : short + t < dl j + ec := by rw [HDL.out, if_neg hlq]; omega
                                have y3 := hdj.word_at j (short + t) hlj hil
                                have y4 := (hdj.wor j hlj).free (short + t)
                                obtain ⟨n1, hn1⟩ : ∃ n1, dl j + ec = n1 := ⟨_, rfl⟩
                                rw [hn1] at y2 hil
                                obtain ⟨ix, hix⟩ : ∃ ix, short + t = ix := ⟨_, rfl⟩
                                have HFP := HFL.out
                                rw [hix] at y3 y4 hil HFP
                                have HIX := Lib.hid hix
                                have hili : (ix : Int) < n1 := by omega
                                generalize ps j = pj at y1 y2
                                obtain ⟨qj, hqj⟩ : ∃ qj, qs j = qj := ⟨_, rfl⟩
                                have HQQ := HQB.out
                                rw [hqj] at y2 y3 y4 HFP HQQ
                                have HFJ := Lib.hid HFP
                                have HQJ := Lib.hid HQQ
                                unfold u8c at y3
                                have y5 := (HKJ.out.blk HA.out (by simp)).at (u8_get raw oh (by rw [HRL.out]; exact hofT))
                                obtain ⟨x, hx⟩ : ∃ x, raw.getD oh 0 = x := ⟨_, rfl⟩
                                have HXX := Lib.hid hx
                                rw [hx] at y5
                                unfold u8c at y5
                                have hofi : (oh : Int) < T := by omega
                                clear HFL HQB HFP HQQ hn1 hqj hx hdj hofT
                                obtain rfl : i = ix := by have := HIX.out; have := HIT.out; omega
                                clear hlq
                                go_wp2_with fail
                                go_region
                                all_goals go_wp2_with fail
                                all_goals exact ⟨⟨j + 1, oh + 1, by omega, by have := HOH.out; omega, by go_num, by go_num, Lib.hid ⟨(HKJ.out.setCell (.inr HQJ.out) _).drew, ps, qs, by have hz := HIX.out; subst hz; exact DBs.kept (HFJ.out x HXX.out) ((Kept.refl _ _).drew)⟩⟩, by simp [intOf]; omega⟩
                            · obtain rfl : nB = j := by omega
                              go_wp2_with fail
                              go_roundw
                              case rel => exact ⟨t + 1, i + 1, oh, by omega, by have := HIT.out; omega, by have := HOH.out; have := HOI.out; rw [Nat.succ_mul]; omega, rfl, by go_num, Lib.hid ⟨HKJ.out, by obtain ⟨ps, qs, h⟩ := HDJ.out; exact ⟨ps, qs, DBs.congr h (fun a b ha _ => by simp [ha]; try (congr 1))⟩⟩⟩
                              case measure => simp [intOf]; omega
                        · obtain rfl : ec = t := by omega
                          have hin : sn = i := by have := HSN.out; omega
                          have HFIN : Hid (∃ ps qs, DBs wr w.heap.size RB nB nB ec dl ps qs c) := Lib.hid (by
                            obtain ⟨ps, qs, h⟩ := HDI.out
                            refine ⟨ps, qs, DBs.congr h (fun a b ha hb => ?_)⟩
                            rw [HDL.out] at hb
                            by_cases e : ls ≤ a
                            · rw [if_pos e] at hb; rw [if_pos (by show b < short + ec + (if ls ≤ a then 1 else 0); rw [if_pos e]; omega)]
                            · rw [if_neg e] at hb; rw [if_pos (by show b < short + ec + (if ls ≤ a then 1 else 0); rw [if_neg e]; omega)])
                          subst hin
                          clear hi HDI
                          go_wp2_with fail
                          go_ret2
                          obtain ⟨ps, qs, h⟩ := HFIN.out
                          exact ⟨⟨RB, ps, qs, rfl, h⟩, HKI.out⟩
end
end Go.Proofs.YtplpafbkalkchaaGreatDoor
