/- Walks: the count of letters; the end of the bits and what fills them up. Walks: data in blocks, each with its words of error correction, taken in turns. -/
import Derived.Deep.CutRange
import Derived.Test.YtplpafbkalkchaaGreatDoorW14
import Derived.Test.YtplpafbkalkchaaGreatDoorW10
import Derived.Test.YtplpafbkalkchaaGreatDoorW11
import Derived.Test.YtplpafbkalkchaaGreatDoorW01
namespace Go.Proofs.YtplpafbkalkchaaGreatDoor
open Go Go.RowKit Go.Proofs
set_option linter.all false

section
set_option maxRecDepth 100000 in
theorem appendLength_k {B C0 : Nat} {bs : List Bool} {w0 w : World} {V N k : Nat} (h : BAc B C0 bs w0 w) (hV : Ver w V N k) (hk9 : k ≤ 9) (m n : Nat) (hm : m = 1 ∨ m = 2 ∨ m = 4) (hn : n < 256) (hr : bs.length ≤ 50000) :
   Calls Tryz.prog 52 #[intc n, ptv V, intc m, ptv B] w fun e w' => e = .returned .nilIface ∧ BAc B C0 (bs ++ vbits n (cbits m) (cbits m)) w0 w' := by
  have hni : (n : Int) < 256 := by omega
  have hcb := cbits_le m
  go_enter Tryz.func52, Tryz.ntmps52
  go_wp2_with fail
  refine (countBits_c hV hk9 m hm).mono ?_
  rintro e w1 ⟨rfl, hk⟩
  have hB := h.quiet hk
  rcases hm with rfl | rfl | rfl
  · have e1 : cbits 1 = 10 := rfl
    rw [e1]
    go_wp2_with fail
    refine (bits_k hB _ n 10 _ rfl rfl (by omega) (by omega) hr).mono ?_
    rintro e w2 ⟨rfl, hb2⟩
    go_wp2_with fail
    go_ret
    exact ⟨rfl, hb2⟩
  · have e1 : cbits 2 = 9 := rfl
    rw [e1]
    go_wp2_with fail
    refine (bits_k hB _ n 9 _ rfl rfl (by omega) (by omega) hr).mono ?_
    rintro e w2 ⟨rfl, hb2⟩
    go_wp2_with fail
    go_ret
    exact ⟨rfl, hb2⟩
  · have e1 : cbits 4 = 8 := rfl
    rw [e1]
    go_wp2_with fail
    refine (bits_k hB _ n 8 _ rfl rfl (by omega) (by omega) hr).mono ?_
    rintro e w2 ⟨rfl, hb2⟩
    go_wp2_with fail
    go_ret
    exact ⟨rfl, hb2⟩
/-- j bytes that fill up. -/
def pads (j : Nat) : List Bool := (List.range j).flatMap fun i => vbits (if i % 2 = 0 then 236 else 17) 8 8
theorem pads_succ (j : Nat) : pads (j + 1) = pads j ++ vbits (if j % 2 = 0 then 236 else 17) 8 8 := by
  unfold pads; rw [List.range_succ, List.flatMap_append]; simp
theorem pads_len (j : Nat) : (pads j).length = 8 * j := by
  induction j with
  | zero => rfl
  | succ j ih => rw [pads_succ, List.length_append, ih, vbits_length]; omega
/-- The end marker, and bits up to a whole byte. -/
def ended (n : Nat) (bs : List Bool) : List Bool := bs ++ List.replicate (min 4 (8 * n - bs.length)) false
def evened (bs : List Bool) : List Bool := bs ++ List.replicate ((8 - bs.length % 8) % 8) false
def filled (n : Nat) (bs : List Bool) : List Bool := evened (ended n bs) ++ pads (n - (evened (ended n bs)).length / 8)
theorem evened_len (bs : List Bool) : (evened bs).length % 8 = 0 ∧ bs.length ≤ (evened bs).length ∧ (evened bs).length < bs.length + 8 := by
  unfold evened; rw [List.length_append, List.length_replicate]; omega
theorem ended_len (n : Nat) (bs : List Bool) (h : bs.length ≤ 8 * n) : (ended n bs).length ≤ 8 * n ∧ bs.length ≤ (ended n bs).length := by
  unfold ended; rw [List.length_append, List.length_replicate]; omega
theorem filled_len (n : Nat) (bs : List Bool) (h : bs.length ≤ 8 * n) : (filled n bs).length = 8 * n := by
  have h1 := evened_len (ended n bs)
  have h2 := ended_len n bs h
  unfold filled
  rw [List.length_append, pads_len]; omega
theorem i64_and7 (p : Nat) (hp : p < 4611686018427387904) : bits .and .i64 (p : Int) 7 = ((p % 8 : Nat) : Int) := by
  have h := i64_and_nat p 7 hp (by decide)
  rw [show p &&& 7 = p % 8 from Nat.and_two_pow_sub_one_eq_mod p 3] at h; exact h
theorem i64_and1 (p : Nat) (hp : p < 4611686018427387904) : bits .and .i64 (p : Int) 1 = ((p % 2 : Nat) : Int) := by
  have h := i64_and_nat p 1 hp (by decide)
  rw [show p &&& 1 = p % 2 from Nat.and_two_pow_sub_one_eq_mod p 1] at h; exact h
theorem rep_snoc (n : Nat) : List.replicate (n + 1) false = List.replicate n false ++ [false] := by rw [List.replicate_succ']
set_option maxRecDepth 100000 in
set_option maxHeartbeats 2000000 in
theorem terminate_k {B C0 : Nat} {bs : List Bool} {w0 w : World} (h : BAc B C0 bs w0 w) (n : Nat) (hn : n ≤ 300) (hr : bs.length ≤ 8 * n) :
   Calls Tryz.prog 56 #[intc n, ptv B] w fun e w' => e = .returned .nilIface ∧ BAc B C0 (filled n bs) w0 w' := by
  have hni : (n : Int) ≤ 300 := by omega
  have hli : (bs.length : Int) ≤ (n : Int) * 8 := by omega
  have hl0 : (bs.length : Int) ≤ 2400 := by omega
  have hl1 : decide ((n : Int) * 8 < (bs.length : Int)) = false := by rw [decide_eq_false_iff_not]; omega
  go_enter Tryz.func56, Tryz.ntmps56
  go_wp2_with fail
  refine (size_k h).mono ?_
  rintro e w1 ⟨rfl, rfl⟩
  go_wp2_with fail
  go_loopw [6] (fun i wr => ∃ j : Nat, j ≤ 4 ∧ bs.length + j ≤ 8 * n ∧ i = intc j ∧ BAc B C0 (bs ++ List.replicate j false) w0 wr) (fun i _ => (4 - intOf i).toNat)
  case atStart => exact ⟨0, by omega, hr, rfl, by simpa using h⟩
  case round =>
    obtain ⟨j, hj, hjn, rfl, hb⟩ := hrel
    have hj4 : (j : Int) ≤ 4 := by omega
    have hbl : (bs ++ List.replicate j false).length = bs.length + j := by simp
    by_cases hlt : j < 4 ∧ bs.length + j < 8 * n
    · obtain ⟨h4, h8⟩ := hlt
      have i4 : (j : Int) < 4 := by omega
      have i8 : ((bs.length + j : Nat) : Int) < (n : Int) * 8 := by omega
      have HBL := Lib.hid hbl
      clear hbl
      go_wp2_with fail
      refine (size_k hb).mono ?_
      rintro e w1 ⟨rfl, rfl⟩
      rw [HBL.out]
      go_wp2_with fail
      refine (bit_k hb false (by rw [HBL.out]; omega)).mono ?_
      rintro e w2 ⟨rfl, hb2⟩
      go_wp2_with fail
      go_roundw
      case rel => exact ⟨j + 1, by omega, by omega, by go_num, by rw [rep_snoc, ← List.append_assoc]; exact hb2⟩
      case measure => simp [intOf]; omega
    · have hE : Hid (BAc B C0 (ended n bs) w0 wr) := Lib.hid (by unfold ended; rw [show min 4 (8 * n - bs.length) = j by omega]; exact hb)
      have hel := ended_len n bs hr
      have HBL := Lib.hid hbl
      clear hbl
      obtain ⟨T1, hT1⟩ : ∃ T1, ended n bs = T1 := ⟨_, rfl⟩
      have hev := evened_len (ended n bs)
      have HEV : Hid (evened (ended n bs) = T1 ++ List.replicate ((8 - T1.length % 8) % 8) false) := Lib.hid (by rw [hT1]; rfl)
      have HFI : Hid (∀ q, (T1 ++ List.replicate ((8 - T1.length % 8) % 8) false).length = 8 * q → filled n bs = (T1 ++ List.replicate ((8 - T1.length % 8) % 8) false) ++ pads (n - q)) := Lib.hid (by
        intro q hq; unfold filled; rw [HEV.out, hq]; congr 2; omega)
      have hE' := hE.out
      rw [hT1] at hE' hel hev
      have HEV' := HEV.out
      rw [hT1] at HEV'
      rw [HEV'] at hev
      clear HEV HEV' hT1 hE
      have ha7 := i64_and7 T1.length (by omega)
      have hT9 : (T1.length : Int) ≤ 2400 := by omega
      obtain ⟨r, hr8⟩ : ∃ r, T1.length % 8 = r := ⟨_, rfl⟩
      rw [hr8] at ha7 hev HFI
      have hr7 : (r : Int) ≤ 7 := by omega
      have hel1 := Lib.hid hel
      have HT8 := Lib.hid hr8
      have HVV := Lib.hid hev
      clear hel hr8 hev
      rcases (show j = 4 ∨ (j < 4 ∧ bs.length + j = 8 * n) by omega) with rfl | ⟨h4, h8⟩
      case' inl => go_wp2_with fail
      case' inr =>
        have i4 : (j : Int) < 4 := by omega
        have i8 : decide ((bs.length : Int) + (j : Int) < (n : Int) * 8) = false := by rw [decide_eq_false_iff_not]; omega
        have H8 := Lib.hid h8
        clear h8
        go_wp2_with fail
        refine (size_k hb).mono ?_
        rintro e w1 ⟨rfl, rfl⟩
        rw [HBL.out]
        go_wp2_with fail
      all_goals
        refine (size_k hE').mono ?_
        rintro e w1 ⟨rfl, rfl⟩
        go_upto_if 42 with fail
        go_cut [8] from 42 to 49 (fun s wx => (∃ v, s = v) ∧ BAc B C0 (T1 ++ List.replicate ((8 - r) % 8) false) w0 wx)
        case first =>
          by_cases hr0 : r = 0
          · subst hr0
            go_wp2_with fail
            go_meet
            exact ⟨⟨_, rfl⟩, by simpa using hE'⟩
          · have hrp : decide (0 < r) = true := by rw [decide_eq_true_iff]; omega
            rw [hrp]
            go_wp2_with fail
            go_loopw [8] (fun i wr => ∃ j : Nat, r ≤ j ∧ j ≤ 8 ∧ i = intc j ∧ BAc B C0 (T1 ++ List.replicate (j - r) false) w0 wr) (fun i _ => (8 - intOf i).toNat)
            case atStart => exact ⟨r, by omega, by omega, rfl, by simpa using hE'⟩
            case round =>
              obtain ⟨j, hj1, hj8, rfl, hb2⟩ := hrel
              have ij : (j : Int) ≤ 8 := by omega
              by_cases hl8 : j < 8
              · have il8 : (j : Int) < 8 := by omega
                go_wp2_with fail
                refine (bit_k hb2 false (by rw [List.length_append, List.length_replicate]; omega)).mono ?_
                rintro e w2 ⟨rfl, hb3⟩
                go_wp2_with fail
                go_roundw
                case rel => exact ⟨j + 1, by omega, by omega, by go_num, by rw [show j + 1 - r = (j - r) + 1 by omega, rep_snoc, ← List.append_assoc]; exact hb3⟩
                case measure => simp [intOf]; omega
              · obtain rfl : j = 8 := by omega
                have hb2' : BAc B C0 (T1 ++ List.replicate ((8 - r) % 8) false) w0 wr := by
                  rw [show (8 - r) % 8 = 8 - r by omega]; exact hb2
                go_wp2_with fail
                go_meet
                exact ⟨⟨_, rfl⟩, hb2'⟩
        case rest =>
          obtain ⟨⟨v8, rfl⟩, hb8⟩ := hcut
          obtain ⟨q, hq⟩ : ∃ q, (T1 ++ List.replicate ((8 - r) % 8) false).length = 8 * q := ⟨(T1 ++ List.replicate ((8 - r) % 8) false).length / 8, by have := HVV.out; omega⟩
          have hfin := HFI.out q hq
          have hqn : q ≤ n := by have := HVV.out; have := hel1.out; have := HT8.out; omega
          have HQ := Lib.hid hq
          have HFN := Lib.hid hfin
          generalize T1 ++ List.replicate ((8 - r) % 8) false = T2 at hb8 HQ HFN
          clear hq hfin
          have hqi : (q : Int) ≤ n := by omega
          go_wp2_with fail
          refine (sizeInBytes_k hb8).mono ?_
          rintro e w1 ⟨rfl, rfl⟩
          have hqq : (T2.length + 7) / 8 = q := by have := HQ.out; omega
          rw [hqq]
          clear hqq
          have hnq : (n : Int) - (q : Int) = ((n - q : Nat) : Int) := by omega
          go_wp2_with fail
          clear hnq
          go_loopw [10] (fun i wr => ∃ j : Nat, j ≤ n - q ∧ i = intc j ∧ BAc B C0 (T2 ++ pads j) w0 wr) (fun i _ => (n - q : Nat) - (intOf i).toNat)
          case atStart => exact ⟨0, by omega, rfl, by simpa [pads] using hb8⟩
          case round =>
            obtain ⟨j, hj1, rfl, hb2⟩ := hrel
            have hj1i : (j : Int) ≤ (n : Int) - q := by omega
            have hp2 : (T2 ++ pads j).length ≤ 50000 := by rw [List.length_append, HQ.out, pads_len]; omega
            have ha1 := i64_and1 j (by omega)
            by_cases hlj : j < n - q
            · have hlji : (j : Int) < ((n - q : Nat) : Int) := by omega
              have HPS := Lib.hid (pads_succ j)
              rcases Nat.mod_two_eq_zero_or_one j with hm | hm
              all_goals
                rw [hm] at ha1
                have HM := Lib.hid hm
                clear hm
                go_wp2_with fail
              · refine (bits_k hb2 _ 236 8 _ rfl rfl (by omega) (by omega) hp2).mono ?_
                rintro e w2 ⟨rfl, hb3⟩
                go_wp2_with fail
                go_roundw
                case rel => exact ⟨j + 1, by omega, by go_num, by rw [HPS.out, if_pos HM.out, ← List.append_assoc]; exact hb3⟩
                case measure => simp [intOf]; omega
              · refine (bits_k hb2 _ 17 8 _ rfl rfl (by omega) (by omega) hp2).mono ?_
                rintro e w2 ⟨rfl, hb3⟩
                go_wp2_with fail
                go_roundw
                case rel => exact ⟨j + 1, by omega, by go_num, by rw [HPS.out, if_neg (by rw [HM.out]; decide), ← List.append_assoc]; exact hb3⟩
                case measure => simp [intOf]; omega
            · obtain rfl : j = n - q := by omega
              clear ha1
              have hlen : (((T2 ++ pads (n - q)).length : Nat) : Int) = (n : Int) * 8 := by rw [List.length_append, HQ.out, pads_len]; omega
              have HL := Lib.hid hlen
              clear hlen
              go_wp2_with fail
              refine (size_k hb2).mono ?_
              rintro e w2 ⟨rfl, rfl⟩
              rw [HL.out]
              go_wp2_with fail
              go_ret
              exact ⟨rfl, by rw [HFN.out]; exact hb2⟩
end

section
theorem info214 : (Tryz.prog.info? 214).map (fun i => (i.zero, i.size, i.bytes)) = some (some (.pointer none), 1, 8) := by kernel_rfl
theorem newPair_c (a b : Value) (w : World) (ha : a.oneCell' = true) (hb : b.oneCell' = true) (x y : Option Addr) (l1 c1 l2 c2 : Nat) (ea : a = .slice x l1 c1) (eb : b = .slice y l2 c2) :
    Calls Tryz.prog 119 #[a, b] w fun e w' => e = .returned (ptv w.heap.size) ∧ w.alloc (.cells #[a, b] 254) = w' := by
  subst ea; subst eb
  go_enter Tryz.func119, Tryz.ntmps119
  go_wp2
  go_ret
  exact ⟨rfl, rfl⟩
theorem pairData_c {w : World} {p : Nat} {a b : Value} (h : Blk w p [a, b] 254) (x : Option Addr) (l1 c1 : Nat) (ea : a = .slice x l1 c1) : Calls Tryz.prog 120 #[ptv p] w fun e w' => e = .returned a ∧ w = w' := by
  subst ea
  have h0 := h.at (i := 0) rfl
  clear h
  go_enter Tryz.func120, Tryz.ntmps120
  go_wp2
  go_ret
  exact ⟨rfl, rfl⟩
theorem pairEC_c {w : World} {p : Nat} {a b : Value} (h : Blk w p [a, b] 254) (x : Option Addr) (l1 c1 : Nat) (ea : b = .slice x l1 c1) : Calls Tryz.prog 121 #[ptv p] w fun e w' => e = .returned b ∧ w = w' := by
  subst ea
  have h0 := h.at (i := 1) rfl
  clear h
  go_enter Tryz.func121, Tryz.ntmps121
  go_wp2
  go_ret
  exact ⟨rfl, rfl⟩
/-- A pair of a block's data and its words of error correction. -/
def BP (w : World) (p : Nat) (r : List Nat × List Nat) : Prop :=
  ∃ DB EB, Blk w p [slv DB r.1.length r.1.length, slv EB r.2.length r.2.length] 254 ∧ Blk w DB (r.1.map u8c) 5 ∧ Blk w EB (r.2.map u8c) 5
theorem BP.kept {w w' : World} {p : Nat} {r : List Nat × List Nat} {S : List Nat} (h : BP w p r) (hk : Kept S w w') (hS : ∀ x ∈ S, (∃ us, Blk w x us 214) ∨ w.heap.size ≤ x) : BP w' p r := by
  obtain ⟨DB, EB, h1, h2, h3⟩ := h
  have key : ∀ b vs T, T ≠ 214 → Blk w b vs T → Blk w' b vs T := fun b vs T hT hb => hk.blk hb (fun hx => by
    rcases hS b hx with ⟨us, hu⟩ | hs
    · exact hT (hb.type hu)
    · have := hb.lt; omega)
  exact ⟨DB, EB, key _ _ _ (by decide) h1, key _ _ _ (by decide) h2, key _ _ _ (by decide) h3⟩
def Pairs (w : World) (ps : List Nat) (rows : List (List Nat × List Nat)) : Prop := ps.length = rows.length ∧ ∀ (j p : Nat) (r : List Nat × List Nat), ps[j]? = some p → rows[j]? = some r → BP w p r
theorem Pairs.kept {w w' : World} {ps : List Nat} {rows : List (List Nat × List Nat)} {S : List Nat} (h : Pairs w ps rows) (hk : Kept S w w') (hS : ∀ x ∈ S, (∃ us, Blk w x us 214) ∨ w.heap.size ≤ x) : Pairs w' ps rows :=
  ⟨h.1, fun j p r hp hr => (h.2 j p r hp hr).kept hk hS⟩
theorem Pairs.snoc {w : World} {ps : List Nat} {rows : List (List Nat × List Nat)} (h : Pairs w ps rows) {p : Nat} {r : List Nat × List Nat} (hb : BP w p r) : Pairs w (ps ++ [p]) (rows ++ [r]) := by
  refine ⟨by simp [h.1], fun j q s hq hs => ?_⟩
  rcases Nat.lt_or_ge j ps.length with hj | hj
  · rw [List.getElem?_append_left hj] at hq
    rw [List.getElem?_append_left (by rw [← h.1]; exact hj)] at hs
    exact h.2 j q s hq hs
  · rw [List.getElem?_append_right hj] at hq
    rw [List.getElem?_append_right (by rw [← h.1]; exact hj)] at hs
    have hj0 : j - ps.length = 0 := by
      rcases Nat.eq_zero_or_pos (j - ps.length) with h0 | h0
      · exact h0
      · rw [List.getElem?_eq_none (by simp; omega)] at hq; cases hq
    rw [hj0] at hq
    rw [← h.1, hj0] at hs
    simp at hq hs
    rw [← hq, ← hs]; exact hb
/-- Where block j begins. -/
def offs (nT nD nB : Nat) : Nat → Nat
  | 0 => 0
  | j + 1 => offs nT nD nB j + dataLen nT nD nB j
def blockData (bs : List Bool) (nT nD nB j : Nat) : List Nat := bytesAt bs (8 * offs nT nD nB j) (dataLen nT nD nB j)
theorem bytesAt_len (bs : List Bool) (o n : Nat) : (bytesAt bs o n).length = n := by simp [bytesAt]
theorem bytesAt_lt (bs : List Bool) (o n : Nat) : ∀ y ∈ bytesAt bs o n, y < 256 := by
  intro y hy
  unfold bytesAt at hy
  rw [List.mem_map] at hy
  obtain ⟨t, _, rfl⟩ := hy
  exact byteUpto_lt bs _ 8 (by omega)
/-- The greatest of the first i lengths. -/
def maxLens (nT nD nB : Nat) : Nat → Nat
  | 0 => 0
  | i + 1 => max (maxLens nT nD nB i) (dataLen nT nD nB i)
/-- The rows of the first i blocks. -/
def RowsFor (bs : List Bool) (nT nD nB ec i : Nat) (rows : List (List Nat × List Nat)) : Prop :=
  rows.length = i ∧ ∀ j r, rows[j]? = some r → r.1 = blockData bs nT nD nB j ∧ Fine r.1 r.2 ec
theorem RowsFor.snoc {bs : List Bool} {nT nD nB ec i : Nat} {rows : List (List Nat × List Nat)} (h : RowsFor bs nT nD nB ec i rows) {L : List Nat} (hf : Fine (blockData bs nT nD nB i) L ec) : RowsFor bs nT nD nB ec (i + 1) (rows ++ [(blockData bs nT nD nB i, L)]) := by
  refine ⟨by simp [h.1], fun j r hr => ?_⟩
  rcases Nat.lt_or_ge j rows.length with hj | hj
  · rw [List.getElem?_append_left hj] at hr; exact h.2 j r hr
  · rw [List.getElem?_append_right hj] at hr
    have hj0 : j - rows.length = 0 := by
      rcases Nat.eq_zero_or_pos (j - rows.length) with h0 | h0
      · exact h0
      · rw [List.getElem?_eq_none (by simp; omega)] at hr; cases hr
    rw [hj0] at hr
    simp at hr
    have : j = i := by have := h.1; omega
    subst this; subst hr
    exact ⟨rfl, hf⟩
theorem dataLen_pos (nT nD nB i : Nat) (h : nB ≤ nD) (hB : 1 ≤ nB) : 1 ≤ dataLen nT nD nB i := by
  have := Nat.div_pos h hB
  unfold dataLen; split <;> omega
theorem dataLen_le (nT nD nB i : Nat) : dataLen nT nD nB i ≤ nD + 1 := by
  have := Nat.div_le_self nD nB
  unfold dataLen; split <;> omega
theorem offs_mono (nT nD nB : Nat) (i j : Nat) (h : i ≤ j) : offs nT nD nB i ≤ offs nT nD nB j := by
  induction h with
  | refl => exact Nat.le_refl _
  | step _ ih => exact Nat.le_trans ih (Nat.le_add_right _ _)
theorem offs_sum (nT nD nB : Nat) (i : Nat) : ((List.range i).map (dataLen nT nD nB)).sum = offs nT nD nB i := by
  induction i with
  | zero => rfl
  | succ i ih => rw [List.range_succ, List.map_append, List.sum_append, ih]; simp [offs]
theorem RowsFor.sums {bs : List Bool} {nT nD nB ec i : Nat} {rows : List (List Nat × List Nat)} (h : RowsFor bs nT nD nB ec i rows) :
    ((rows.map (·.1)).map List.length).sum = offs nT nD nB i ∧ ((rows.map (·.2)).map List.length).sum = i * ec := by
  have h1 : (rows.map (·.1)).map List.length = (List.range i).map (dataLen nT nD nB) := by
    apply List.ext_getElem?
    intro j
    rw [List.getElem?_map, List.getElem?_map, List.getElem?_map]
    rcases Nat.lt_or_ge j i with hj | hj
    · obtain ⟨r, hr⟩ : ∃ r, rows[j]? = some r := ⟨_, List.getElem?_eq_getElem (by rw [h.1]; exact hj)⟩
      rw [hr, List.getElem?_range hj]
      have e := (h.2 j r hr).1
      simp only [Option.map_some]
      rw [e]; unfold blockData; rw [bytesAt_len]
    · rw [List.getElem?_eq_none (by rw [h.1]; exact hj), List.getElem?_eq_none (by simpa using hj)]; rfl
  have h2 : (rows.map (·.2)).map List.length = List.replicate i ec := by
    apply List.ext_getElem?
    intro j
    rw [List.getElem?_map, List.getElem?_map, List.getElem?_replicate]
    rcases Nat.lt_or_ge j i with hj | hj
    · obtain ⟨r, hr⟩ : ∃ r, rows[j]? = some r := ⟨_, List.getElem?_eq_getElem (by rw [h.1]; exact hj)⟩
      rw [hr, if_pos hj]
      simp only [Option.map_some]
      rw [(h.2 j r hr).2.len]
    · rw [List.getElem?_eq_none (by rw [h.1]; exact hj), if_neg (by omega)]; rfl
  rw [h1, h2, offs_sum]
  refine ⟨rfl, ?_⟩
  clear h1 h2 h
  induction i with
  | zero => simp
  | succ i ih => rw [List.replicate_succ, List.sum_cons, ih, Nat.succ_mul]; omega
end
end Go.Proofs.YtplpafbkalkchaaGreatDoor
