/- Walks: the bits of a text, alphanumeric or of bytes. Walks: a version's numbers, level by level; the version that fits. Walks: how many bits a text needs; the version that fits. -/
import Derived.Laws.IdiomStrings
import Derived.Test.YtplpafbkalkchaaGreatDoorW11
import Derived.Test.YtplpafbkalkchaaGreatDoorW13
namespace Go.Proofs.YtplpafbkalkchaaGreatDoor
open Go Go.RowKit Go.Proofs
set_option linter.all false

section
set_option maxRecDepth 100000 in
theorem alphaCode_bd : ∀ c, c < 256 → alphaCode c ≤ 44 ∧ (isAl c = true → 0 ≤ alphaCode c) := by decide
theorem al_of {s : ByteArray} (h : (chars s).all isAl = true) (i : Nat) (hi : i < s.size) : alphaCode (chr s i) = ((alphaCode (chr s i)).toNat : Int) ∧ (alphaCode (chr s i)).toNat ≤ 44 := by
  rw [List.all_eq_true] at h
  have := h _ (chr_mem s i hi)
  have h2 := alphaCode_bd (chr s i) (chr_lt s i)
  have h3 := h2.2 this
  omega
set_option maxRecDepth 100000 in
set_option maxHeartbeats 1000000 in
theorem appendAlpha_k {B C0 : Nat} {bs : List Bool} {w0 w : World} (h : BAc B C0 bs w0 w) (s : ByteArray) (hs : s.size ≤ 1000) (hd : (chars s).all isAl = true) (hr : bs.length ≤ 10000) :
   Calls Tryz.prog 106 #[.string s, ptv B] w fun e w' => e = .returned .nilIface ∧ BAc B C0 (bs ++ alphaBits (chars s)) w0 w' := by
  have hsi : (s.size : Int) ≤ 1000 := by omega
  have HD := Lib.hid hd
  clear hd
  have hnl := alphaBits_len (chars s)
  rw [chars_len] at hnl
  go_enter Tryz.func106, Tryz.ntmps106
  go_wp2_with fail
  go_loopw [6] (fun i wr => ∃ (k : Nat) (X : List Bool), k ≤ s.size ∧ i = .int .i64 k ∧ Hid (X ++ alphaBits ((chars s).drop k) = alphaBits (chars s)) ∧ BAc B C0 (bs ++ X) w0 wr) (fun i _ => s.size - (intOf i).toNat)
  case atStart => exact ⟨0, [], Nat.zero_le _, rfl, Lib.hid (by simp), by simpa using h⟩
  case round =>
    obtain ⟨k, X, hk, rfl, HX, hb⟩ := hrel
    have hxl : (bs ++ X).length ≤ 50000 := by
      have := congrArg List.length HX.out
      rw [List.length_append] at this ⊢; omega
    by_cases hlt : k < s.size
    · have hlti : (k : Int) < (s.size : Int) := by omega
      have hc0 := chr_at s k hlt
      have hc0' : s[k].toNat < 256 := by rw [hc0]; exact chr_lt s k
      have hd0 := al_of HD.out k hlt
      rw [← hc0] at hd0
      obtain ⟨x, hx⟩ : ∃ x, (alphaCode s[k].toNat).toNat = x := ⟨_, rfl⟩
      rw [hx] at hd0
      have HE0 := Lib.hid hd0.1
      have hx9 : x ≤ 44 := hd0.2
      have hx9i : (x : Int) ≤ 44 := by omega
      have hxne : ((x : Int) == -1) = false := by simp
      by_cases h1 : k + 1 < s.size
      · have h1i : (k : Int) + 1 < (s.size : Int) := by omega
        have hc1 := chr_at s (k + 1) h1
        have hc1' : s[k + 1].toNat < 256 := by rw [hc1]; exact chr_lt s _
        have hd1 := al_of HD.out (k + 1) h1
        rw [← hc1] at hd1
        obtain ⟨y, hy⟩ : ∃ y, (alphaCode s[k + 1].toNat).toNat = y := ⟨_, rfl⟩
        rw [hy] at hd1
        have HE1 := Lib.hid hd1.1
        have hy9 : y ≤ 44 := hd1.2
        have hy9i : (y : Int) ≤ 44 := by omega
        have hyne : ((y : Int) == -1) = false := by simp
        have HN : Hid ((X ++ vbits (x * 45 + y) 11 11) ++ alphaBits ((chars s).drop (k + 2)) = alphaBits (chars s)) := Lib.hid (by
          rw [← HX.out, drop_chars s k hlt, drop_chars s (k + 1) h1, alphaBits, List.append_assoc, ← hc0, ← hc1, hx, hy])
        clear hc0 hc1 hd0 hd1 hx hy
        go_wp2_with fail
        refine (alphaCode_c _ hc0' _).mono ?_
        rintro e w1 ⟨rfl, hk1⟩
        rw [HE0.out]
        go_wp2_with fail
        refine (alphaCode_c _ hc1' _).mono ?_
        rintro e w2 ⟨rfl, hk2⟩
        rw [HE1.out]
        go_wp2_with fail
        refine (bits_k ((hb.quiet hk1).quiet hk2) _ (x * 45 + y) 11 _ (by omega) rfl (by omega) (by omega) hxl).mono ?_
        rintro e w3 ⟨rfl, hb1⟩
        go_wp2_with fail
        go_roundw
        case rel => exact ⟨k + 2, _, by omega, by go_num, HN, by rw [← List.append_assoc]; exact hb1⟩
        case measure => simp [intOf]; omega
      · have h1i : ¬ (k : Int) + 1 < (s.size : Int) := by omega
        have HN : Hid ((X ++ vbits x 6 6) ++ alphaBits ((chars s).drop (k + 1)) = alphaBits (chars s)) := Lib.hid (by
          rw [← HX.out, drop_chars s k hlt, drop_all s (k + 1) (by omega), alphaBits, alphaBits, List.append_nil, ← hc0, hx])
        clear hc0 hd0 hx
        go_wp2_with fail
        refine (alphaCode_c _ hc0' _).mono ?_
        rintro e w1 ⟨rfl, hk1⟩
        rw [HE0.out]
        go_wp2_with fail
        refine (bits_k (hb.quiet hk1) _ x 6 _ rfl rfl (by omega) (by omega) hxl).mono ?_
        rintro e w3 ⟨rfl, hb1⟩
        go_wp2_with fail
        go_roundw
        case rel => exact ⟨k + 1, _, by omega, by go_num, HN, by rw [← List.append_assoc]; exact hb1⟩
        case measure => simp [intOf]; omega
    · obtain rfl : k = s.size := by omega
      have HF : Hid (BAc B C0 (bs ++ alphaBits (chars s)) w0 wr) := by
        have := HX.out
        rw [drop_all s s.size (Nat.le_refl _), alphaBits, List.append_nil] at this
        rw [← this]; exact Lib.hid hb
      go_wp2_with fail
      go_ret
      exact ⟨rfl, HF.out⟩
theorem byteBits_take (s : ByteArray) (k : Nat) (h : k < s.size) : byteBits ((chars s).take (k + 1)) = byteBits ((chars s).take k) ++ vbits (chr s k) 8 8 := by
  rw [chars_take s k h]; unfold byteBits; rw [List.flatMap_append]; simp
set_option maxRecDepth 100000 in
set_option maxHeartbeats 1000000 in
theorem appendBytes8_k {B C0 : Nat} {bs : List Bool} {w0 w : World} (h : BAc B C0 bs w0 w) (s : ByteArray) (hs : s.size ≤ 1000) (hr : bs.length ≤ 10000) :
   Calls Tryz.prog 107 #[.string s, ptv B] w fun e w' => e = .returned .nilIface ∧ BAc B C0 (bs ++ byteBits (chars s)) w0 w' := by
  have hsi : (s.size : Int) ≤ 1000 := by omega
  have kc := fun (w : World) => run_bytes_of_string (P := Tryz.prog) w 9 35 5 s Tryz.underlying9 Tryz.underlying35 Tryz.underlying5
  go_enter Tryz.func107, Tryz.ntmps107
  go_wp2_with fail
  have hk0 : Kept [] w ((w.alloc (Obj.cells (bytesRow s (grownCap w s.size 0 5)) 5 ((bytesRow s (grownCap w s.size 0 5)).size, (bytesRow s (grownCap w s.size 0 5)).size + 1))).drew) := ((Kept.refl _ _).alloc _).drew
  have hcell : ∀ k, k < s.size → ((w.alloc (Obj.cells (bytesRow s (grownCap w s.size 0 5)) 5 ((bytesRow s (grownCap w s.size 0 5)).size, (bytesRow s (grownCap w s.size 0 5)).size + 1))).drew).cell? ⟨w.heap.size, k, none⟩ = some (.int .u8 (chr s k : Int)) := by
    intro k hk
    have h1 := World.cell?_alloc_mark w (bytesRow s (grownCap w s.size 0 5)) 5 ((bytesRow s (grownCap w s.size 0 5)).size, (bytesRow s (grownCap w s.size 0 5)).size + 1) k
    rw [bytesRow_at s _ k hk] at h1
    have h2 := chr_at s k hk
    rw [← h2]; exact h1
  have hA : w.heap.size < ((w.alloc (Obj.cells (bytesRow s (grownCap w s.size 0 5)) 5 ((bytesRow s (grownCap w s.size 0 5)).size, (bytesRow s (grownCap w s.size 0 5)).size + 1))).drew).heap.size := by simp
  obtain ⟨C, ws, hbw, hk, hC⟩ := h
  have hBA : B ≠ w.heap.size := by have := hbw.st.lt; omega
  have hCA : C ≠ w.heap.size := by have := hbw.ar.lt; omega
  have hb0 := hbw.kept hk0 (by simp) (by simp)
  have hkW : Kept [B, C0] w0 _ := hk.trans0 hk0
  have HCC := Lib.hid hC
  clear hbw hk hC
  generalize (w.alloc (Obj.cells (bytesRow s (grownCap w s.size 0 5)) 5 ((bytesRow s (grownCap w s.size 0 5)).size, (bytesRow s (grownCap w s.size 0 5)).size + 1))).drew = W at hk0 hcell hA hb0 hkW ⊢
  have HC := Lib.hid hcell
  clear hcell kc
  generalize w.heap.size = A at HC hA hBA hCA ⊢
  generalize grownCap w s.size 0 5 = cap
  have hbl := byteBits_len (chars s)
  rw [chars_len] at hbl
  have HBL := Lib.hid hbl
  clear hbl
  go_loopw [12] (fun i wr => ∃ (k : Nat), k ≤ s.size ∧ i = .int .i64 k ∧ BAc B C (bs ++ byteBits ((chars s).take k)) W wr) (fun i _ => s.size - (intOf i).toNat)
  case atStart => exact ⟨0, Nat.zero_le _, rfl, by simpa [byteBits] using BAc.start hb0⟩
  case round =>
    obtain ⟨k, hk, rfl, hb⟩ := hrel
    by_cases hlt : k < s.size
    · have hlti : (k : Int) < (s.size : Int) := by omega
      have hcc : wr.cell? ⟨A, k, none⟩ = some (.int .u8 (chr s k : Int)) := by rw [hb.keeps.cell (p := ⟨A, k, none⟩) hA (by simp; exact ⟨Ne.symm hBA, Ne.symm hCA⟩)]; exact HC.out k hlt
      have hch := chr_lt s k
      have hchi : (chr s k : Int) < 256 := by omega
      have HT := Lib.hid (byteBits_take s k hlt)
      have hxl : (bs ++ byteBits ((chars s).take k)).length ≤ 50000 := by
        rw [List.length_append, byteBits_len, List.length_take, chars_len]; omega
      go_wp2_with fail
      refine (bits_k hb _ (chr s k) 8 _ rfl rfl (by omega) (by omega) hxl).mono ?_
      rintro e w1 ⟨rfl, hb1⟩
      go_wp2_with fail
      go_roundw
      case rel => exact ⟨k + 1, by omega, by go_num, by rw [HT.out, ← List.append_assoc]; exact hb1⟩
      case measure => simp [intOf]; omega
    · obtain rfl : k = s.size := by omega
      have HF : Hid (BAc B C0 (bs ++ byteBits (chars s)) w0 wr) := by
        rw [List.take_of_length_le (by rw [chars_len]; omega)] at hb
        exact Lib.hid (BAc.trans hb0 hkW HCC.out hb)
      go_wp2_with fail
      go_ret
      exact ⟨rfl, HF.out⟩
/-- The bits of a text in a mode. -/
def textBits (m : Nat) (cs : List Nat) : List Bool := if m = 1 then numBits cs else if m = 2 then alphaBits cs else byteBits cs
theorem modeOf_al {cs : List Nat} (h : modeOf cs = 2) : cs.all isAl = true := by
  unfold modeOf at h
  split at h
  · omega
  · split at h
    · assumption
    · omega
theorem modeOf_num {cs : List Nat} (h : modeOf cs = 1) : cs.all isDig = true := by
  unfold modeOf at h
  split at h
  · assumption
  · split at h <;> omega
theorem modeOf_three (cs : List Nat) : modeOf cs = 1 ∨ modeOf cs = 2 ∨ modeOf cs = 4 := by
  unfold modeOf
  split
  · exact .inl rfl
  · split
    · exact .inr (.inl rfl)
    · exact .inr (.inr rfl)
set_option maxRecDepth 100000 in
theorem appendText_k {B C0 : Nat} {bs : List Bool} {w0 w : World} (h : BAc B C0 bs w0 w) (s : ByteArray) (hs : s.size ≤ 1000) (hr : bs.length ≤ 10000) :
   Calls Tryz.prog 44 #[.string s, .int .i64 (modeOf (chars s) : Int), ptv B] w fun e w' => e = .returned .nilIface ∧ BAc B C0 (bs ++ textBits (modeOf (chars s)) (chars s)) w0 w' := by
  rcases modeOf_three (chars s) with hm | hm | hm
  · have hd := modeOf_num hm
    rw [hm]
    have HD := Lib.hid hd
    clear hm hd
    go_enter Tryz.func44, Tryz.ntmps44
    go_wp2_with fail
    refine (appendNum_k h s hs HD.out hr).mono ?_
    rintro e w1 ⟨rfl, h1⟩
    go_wp2_with fail
    go_ret
    exact ⟨rfl, h1⟩
  · have hd := modeOf_al hm
    rw [hm]
    have HD := Lib.hid hd
    clear hm hd
    go_enter Tryz.func44, Tryz.ntmps44
    go_wp2_with fail
    refine (appendAlpha_k h s hs HD.out hr).mono ?_
    rintro e w1 ⟨rfl, h1⟩
    go_wp2_with fail
    go_ret
    exact ⟨rfl, h1⟩
  · rw [hm]
    clear hm
    go_enter Tryz.func44, Tryz.ntmps44
    go_wp2_with fail
    refine (appendBytes8_k h s hs hr).mono ?_
    rintro e w1 ⟨rfl, h1⟩
    go_wp2_with fail
    go_ret
    exact ⟨rfl, h1⟩
end

section
theorem verWords_c {w : World} {V N k : Nat} (h : Ver w V N k) : Calls Tryz.prog 54 #[ptv V] w fun e w' => e = .returned (intc (words k)) ∧ w = w' := by
  have h1 := h.self.at (i := 3) rfl
  clear h
  go_enter Tryz.func54, Tryz.ntmps54
  go_wp2
  go_ret
  exact ⟨rfl, rfl⟩
theorem verDim_c {w : World} {V N k : Nat} (h : Ver w V N k) (hk : k ≤ 40) : Calls Tryz.prog 63 #[ptv V] w fun e w' => e = .returned (intc (17 + 4 * k)) ∧ w = w' := by
  have h1 := h.self.at (i := 0) rfl
  have hki : (k : Int) ≤ 40 := by omega
  clear h
  go_enter Tryz.func63, Tryz.ntmps63
  go_wp2
  go_ret
  exact ⟨ret_int (by omega), rfl⟩
/-- Where a level's blocks stand in a version. -/
def lix (l : Nat) : Nat := if l = 1 then 0 else if l = 0 then 1 else if l = 3 then 2 else 3
theorem lix_lt (l : Nat) : lix l < 4 := by unfold lix; split <;> (try split) <;> (try split) <;> omega
theorem verLevel_c {w : World} {V N k : Nat} (h : Ver w V N k) (l : Nat) (hl : l < 4) : Calls Tryz.prog 53 #[ptv V, intc l] w fun e w' => e = .returned (.pointer (some ⟨N + 5, 2 * lix l, none⟩)) ∧ w = w' := by
  have h1 := h.self.at (i := 2) rfl
  clear h
  rcases (show l = 0 ∨ l = 1 ∨ l = 2 ∨ l = 3 by omega) with rfl | rfl | rfl | rfl
  all_goals
    go_enter Tryz.func53, Tryz.ntmps53
    go_wp2
    go_ret
    exact ⟨rfl, rfl⟩
/-- The blocks of a level, at a place in a block. -/
structure EB (w : World) (E o F : Nat) (e : ECD) : Prop where
  ec : w.cell? ⟨E, o, none⟩ = some (intc e.ec)
  sl : w.cell? ⟨E, o + 1, none⟩ = some (slv F e.runs.length e.runs.length)
  runs : Blk w F e.cells 217
  has : E < w.heap.size
theorem Ver.eb {w : World} {V N k : Nat} (h : Ver w V N k) (i : Nat) (hi : i < 4) : EB w (N + 5) (2 * i) (N + 1 + i) (lev k i) := by
  rcases (show i = 0 ∨ i = 1 ∨ i = 2 ∨ i = 3 by omega) with rfl | rfl | rfl | rfl
  · exact ⟨h.levs.at (i := 0) rfl, h.levs.at (i := 1) rfl, h.run 0 (by omega), h.levs.lt⟩
  · exact ⟨h.levs.at (i := 2) rfl, h.levs.at (i := 3) rfl, h.run 1 (by omega), h.levs.lt⟩
  · exact ⟨h.levs.at (i := 4) rfl, h.levs.at (i := 5) rfl, h.run 2 (by omega), h.levs.lt⟩
  · exact ⟨h.levs.at (i := 6) rfl, h.levs.at (i := 7) rfl, h.run 3 (by omega), h.levs.lt⟩
theorem EB.kept {w w' : World} {E o F : Nat} {e : ECD} (h : EB w E o F e) (hk : Kept [] w w') : EB w' E o F e :=
  ⟨by rw [hk.cells E o h.has]; exact h.ec, by rw [hk.cells E _ h.has]; exact h.sl, hk.blk h.runs (by simp), Nat.lt_of_lt_of_le h.has hk.size⟩
theorem cells_get (l : List (Nat × Nat)) : ∀ (j : Nat) (hj : j < l.length), (l.flatMap fun r => [intc r.1, intc r.2])[2 * j]? = some (intc l[j].1) ∧ (l.flatMap fun r => [intc r.1, intc r.2])[2 * j + 1]? = some (intc l[j].2) := by
  induction l with
  | nil => intro j hj; simp at hj
  | cons a r ih =>
    intro j hj
    cases j with
    | zero => simp
    | succ j =>
      have := ih j (by simpa using hj)
      rw [List.flatMap_cons, show 2 * (j + 1) = 2 * j + 2 from by omega, show 2 * j + 2 + 1 = (2 * j + 1) + 2 from by omega]
      simpa using this
theorem EB.run {w : World} {E o F : Nat} {e : ECD} (h : EB w E o F e) (j : Nat) (hj : j < e.runs.length) : w.cell? ⟨F, j * 2, none⟩ = some (intc e.runs[j].1) ∧ w.cell? ⟨F, j * 2 + 1, none⟩ = some (intc e.runs[j].2) := by
  rw [Nat.mul_comm j 2]; exact ⟨h.runs.at (cells_get e.runs j hj).1, h.runs.at (cells_get e.runs j hj).2⟩
/-- How many blocks the first j runs have. -/
def ECD.upto (e : ECD) (j : Nat) : Nat := ((e.runs.take j).map (·.1)).sum
theorem ECD.upto_succ (e : ECD) (j : Nat) (hj : j < e.runs.length) : e.upto (j + 1) = e.upto j + e.runs[j].1 := by
  unfold ECD.upto
  rw [List.take_succ_eq_append_getElem hj, List.map_append, List.sum_append]; simp
theorem ECD.upto_all (e : ECD) : e.upto e.runs.length = e.count := by unfold ECD.upto ECD.count; rw [List.take_length]
/-- The few runs and words that a level has. -/
structure ECD.Small (e : ECD) : Prop where
  len : e.runs.length ≤ 2
  run : ∀ r ∈ e.runs, r.1 ≤ 10 ∧ r.2 ≤ 200
  ec : e.ec ≤ 30
theorem lev_small (k i : Nat) (h1 : 1 ≤ k) (h7 : k ≤ 7) (hi : i < 4) : (lev k i).Small := by
  rcases (show k = 1 ∨ k = 2 ∨ k = 3 ∨ k = 4 ∨ k = 5 ∨ k = 6 ∨ k = 7 by omega) with rfl | rfl | rfl | rfl | rfl | rfl | rfl <;>
  rcases (show i = 0 ∨ i = 1 ∨ i = 2 ∨ i = 3 by omega) with rfl | rfl | rfl | rfl <;>
  exact ⟨by decide, by decide, by decide⟩
set_option maxRecDepth 100000 in
set_option maxHeartbeats 1000000 in
theorem numBlocks_c {w : World} {E o F : Nat} {e : ECD} (h : EB w E o F e) (hs : e.Small) : Calls Tryz.prog 58 #[.pointer (some ⟨E, o, none⟩)] w fun x w' => x = .returned (intc e.count) ∧ Kept [] w w' := by
  have c0 := h.sl
  have hl := hs.len
  have hli : (e.runs.length : Int) ≤ 2 := by omega
  go_enter Tryz.func58, Tryz.ntmps58
  go_wp2_with fail
  go_loopw [3, 11] (fun t i wr => ∃ j : Nat, j ≤ e.runs.length ∧ i = intc j ∧ t = intc (e.upto j) ∧ e.upto j ≤ 10 * j ∧ Kept [] w wr) (fun _ i _ => (2 - intOf i).toNat)
  case atStart => exact ⟨0, by omega, rfl, rfl, by simp [ECD.upto], Kept.refl _ _⟩
  case round =>
    obtain ⟨j, hj, rfl, rfl, hup, hk⟩ := hrel
    have hji : (j : Int) ≤ 2 := by omega
    by_cases hlt : j < e.runs.length
    · have hlti : (j : Int) < (e.runs.length : Int) := by omega
      obtain ⟨r1, r2⟩ := (h.kept hk).run j hlt
      have hrs := hs.run _ (List.getElem_mem hlt)
      have HS := Lib.hid (e.upto_succ j hlt)
      generalize (e.runs[j]) = q at r1 r2 hrs HS
      obtain ⟨c, d⟩ := q
      have hc : (c : Int) ≤ 10 := by have := hrs.1; simp at this; omega
      have hupi : (e.upto j : Int) ≤ 20 := by omega
      have HU := Lib.hid hup
      simp only at r1 r2 HS
      go_wp2_with (go_at_call 122; refine (count_c _ _ _).mono ?_; rintro e' wx ⟨rfl, rfl⟩)
      go_roundw
      case rel => exact ⟨j + 1, by omega, by go_num, by rw [HS.out]; go_num, by rw [HS.out]; have := HU.out; omega, by repeat (first | exact hk | apply Kept.alloc)⟩
      case measure => simp [intOf]; omega
    · obtain rfl : j = e.runs.length := by omega
      go_wp2_with fail
      go_ret
      exact ⟨by rw [e.upto_all]; rfl, hk⟩
theorem EB.count_lt {e : ECD} (hs : e.Small) : e.count ≤ 20 := by
  obtain ⟨ec, runs⟩ := e
  have h1 := hs.len
  have h2 := hs.run
  unfold ECD.count
  simp only at h1 h2 ⊢
  match runs, h1, h2 with
  | [], _, _ => simp
  | [a], _, h2 => have := (h2 a (by simp)).1; simp; omega
  | [a, b], _, h2 => have := (h2 a (by simp)).1; have := (h2 b (by simp)).1; simp; omega
set_option maxRecDepth 100000 in
theorem ecTotal_c {w : World} {E o F : Nat} {e : ECD} (h : EB w E o F e) (hs : e.Small) : Calls Tryz.prog 55 #[.pointer (some ⟨E, o, none⟩)] w fun x w' => x = .returned (intc (e.ec * e.count)) ∧ Kept [] w w' := by
  have c0 := h.ec
  have hec := hs.ec
  have hco := EB.count_lt hs
  obtain ⟨t, ht⟩ : ∃ t, e.ec * e.count = t := ⟨_, rfl⟩
  have htl : t ≤ 600 := by rw [← ht]; exact Nat.mul_le_mul hec hco
  have hti : (e.ec : Int) * (e.count : Int) = (t : Int) := by rw [← ht, Int.natCast_mul]
  have hm : IntKind.i64.wrap ((e.ec : Int) * (e.count : Int)) = (t : Int) := by rw [hti, IntKind.wrap_i64]; omega
  have HM := Lib.hid hm
  rw [ht]
  clear ht hti hm
  go_enter Tryz.func55, Tryz.ntmps55
  go_wp2_with fail
  have HH := Lib.hid h
  clear h
  go_region_with (go_at_call 58; refine (numBlocks_c (HH.out.kept (Kept.refl [] w).drew) hs).mono ?_; rintro e' wx ⟨rfl, hk⟩; have c1 := ((HH.out.kept (Kept.refl [] w).drew).kept hk).ec)
  all_goals
    rw [HM.out]
    go_wp2_with fail
    go_ret
    exact ⟨rfl, by first | exact (Kept.refl [] w).drew.trans0 hk | exact ((Kept.refl [] w).drew.trans0 hk).drew⟩
end

section
theorem version_c (k : Nat) (h1 : 1 ≤ k) (h7 : k ≤ 7) (w : World) :
   Calls Tryz.prog 45 #[intc k] w fun e w' => (∃ V N, e = .returned (.tuple #[ptv V, .nilIface]) ∧ Ver w' V N k ∧ w.heap.size ≤ N) ∧ Kept [] w w' := by
  have i1 : (1 : Int) ≤ k := by omega
  have i7 : (k : Int) ≤ 7 := by omega
  go_enter Tryz.func45, Tryz.ntmps45
  go_wp2_with fail
  refine (versionOf_c k h1 h7 _).mono ?_
  rintro e w1 ⟨⟨V, N, rfl, hV, hN⟩, hk⟩
  go_wp2_with fail
  go_ret2
  exact ⟨⟨V, N, rfl, hV, hN⟩, hk⟩
/-- How many bits the count of a mode's letters has. -/
def cbits (m : Nat) : Nat := if m = 1 then 10 else if m = 2 then 9 else 8
theorem countTable_c (m : Nat) (hm : m = 1 ∨ m = 2 ∨ m = 4) (w : World) :
   Calls Tryz.prog 139 #[intc m] w fun e w' => e = .returned (slv w.heap.size 3 3) ∧ w'.cell? ⟨w.heap.size, 0, none⟩ = some (intc (cbits m)) ∧ Kept [] w w' := by
  rcases hm with rfl | rfl | rfl
  all_goals
    go_enter Tryz.func139, Tryz.ntmps139
    go_wp2
    go_ret
    exact ⟨rfl, (Blk.new w _ 3).at (i := 0) rfl, (Kept.refl _ _).alloc _⟩
theorem countBits_c {w : World} {V N k : Nat} (h : Ver w V N k) (hk9 : k ≤ 9) (m : Nat) (hm : m = 1 ∨ m = 2 ∨ m = 4) :
   Calls Tryz.prog 111 #[intc m, ptv V] w fun e w' => e = .returned (intc (cbits m)) ∧ Kept [] w w' := by
  have i9 : (k : Int) ≤ 9 := by omega
  go_enter Tryz.func111, Tryz.ntmps111
  go_wp2_with fail
  refine (verNumber_c h).mono ?_
  rintro e w1 ⟨rfl, rfl⟩
  go_wp2_with fail
  refine (countTable_c m hm _).mono ?_
  rintro e w1 ⟨rfl, hc, hk⟩
  go_wp2_with fail
  go_ret
  exact ⟨rfl, hk⟩
theorem cbits_le (m : Nat) : cbits m ≤ 10 ∧ 8 ≤ cbits m := by unfold cbits; split <;> (try split) <;> omega
theorem bitsNeeded_c {w : World} {V N k B B2 C1 C2 : Nat} {bs ds : List Bool} {w1 w2 : World} (h : Ver w V N k) (hk9 : k ≤ 9) (m : Nat) (hm : m = 1 ∨ m = 2 ∨ m = 4)
    (hb : BAc B C1 bs w1 w) (hd : BAc B2 C2 ds w2 w) (l1 : bs.length ≤ 20000) (l2 : ds.length ≤ 20000) :
   Calls Tryz.prog 47 #[intc m, ptv B, ptv B2, ptv V] w fun e w' => e = .returned (intc (bs.length + cbits m + ds.length)) ∧ Kept [] w w' := by
  have hcb := cbits_le m
  have i1 : (bs.length : Int) ≤ 20000 := by omega
  have i2 : (ds.length : Int) ≤ 20000 := by omega
  have i3 : (cbits m : Int) ≤ 10 := by omega
  go_enter Tryz.func47, Tryz.ntmps47
  go_wp2_with fail
  refine (size_k hb).mono ?_
  rintro e w1 ⟨rfl, rfl⟩
  go_wp2_with fail
  refine (countBits_c h hk9 m hm).mono ?_
  rintro e w1 ⟨rfl, hk⟩
  go_wp2_with fail
  refine (size_k (hd.quiet hk)).mono ?_
  rintro e w1 ⟨rfl, rfl⟩
  go_wp2_with fail
  go_ret
  exact ⟨rfl, hk⟩
/-- How many data words a version has at a level. -/
def dataCap (k l : Nat) : Nat := words k - (lev k (lix l)).ec * (lev k (lix l)).count
def fits (k l x : Nat) : Bool := decide ((x + 7) / 8 ≤ dataCap k l)
theorem cap_le (k l : Nat) (h1 : 1 ≤ k) (h7 : k ≤ 7) (hl : l < 4) : (lev k (lix l)).ec * (lev k (lix l)).count ≤ words k ∧ words k ≤ 300 ∧ (lev k (lix l)).ec * (lev k (lix l)).count ≤ 300 := by
  rcases (show k = 1 ∨ k = 2 ∨ k = 3 ∨ k = 4 ∨ k = 5 ∨ k = 6 ∨ k = 7 by omega) with rfl | rfl | rfl | rfl | rfl | rfl | rfl <;>
  rcases (show l = 0 ∨ l = 1 ∨ l = 2 ∨ l = 3 by omega) with rfl | rfl | rfl | rfl <;> decide
set_option maxRecDepth 100000 in
theorem willFit_c {w : World} {V N k : Nat} (h : Ver w V N k) (h1 : 1 ≤ k) (h7 : k ≤ 7) (l : Nat) (hl : l < 4) (x : Nat) (hx : x ≤ 100000) :
   Calls Tryz.prog 48 #[intc x, ptv V, intc l] w fun e w' => e = .returned (.bool (fits k l x)) ∧ Kept [] w w' := by
  obtain ⟨c1, c2, c3⟩ := cap_le k l h1 h7 hl
  have hE := h.eb (lix l) (lix_lt l)
  have hS := lev_small k (lix l) h1 h7 (lix_lt l)
  have hx9 : (x : Int) ≤ 100000 := by omega
  have HFD : Hid (∀ t u : Nat, (lev k (lix l)).ec * (lev k (lix l)).count = t → words k = u → fits k l x = decide ((x + 7) / 8 ≤ u - t)) := Lib.hid (by rintro t u rfl rfl; rfl)
  obtain ⟨t, ht⟩ : ∃ t, (lev k (lix l)).ec * (lev k (lix l)).count = t := ⟨_, rfl⟩
  obtain ⟨u, hu⟩ : ∃ u, words k = u := ⟨_, rfl⟩
  rw [ht, hu] at c1
  rw [ht] at c3
  rw [hu] at c2
  have hfd := HFD.out t u ht hu
  have HT := Lib.hid ht
  have HU := Lib.hid hu
  clear ht hu HFD
  have c1i : (t : Int) ≤ u := by omega
  have c2i : (u : Int) ≤ 300 := by omega
  have HF := Lib.hid hfd
  clear hfd
  go_enter Tryz.func48, Tryz.ntmps48
  go_wp2_with fail
  refine (verWords_c h).mono ?_
  rintro e w1 ⟨rfl, rfl⟩
  rw [HU.out]
  go_wp2_with fail
  refine (verLevel_c h l hl).mono ?_
  rintro e w1 ⟨rfl, rfl⟩
  go_wp2_with fail
  refine (ecTotal_c hE hS).mono ?_
  rintro e w1 ⟨rfl, hk⟩
  rw [HT.out]
  go_wp2_with fail
  go_ret
  refine ⟨?_, hk⟩
  rw [HF.out]
  exact ret_bool (by rw [decide_eq_decide]; omega)
set_option maxRecDepth 100000 in
set_option maxHeartbeats 1000000 in
theorem chooseVersion_c (K l x : Nat) (h1 : 1 ≤ K) (h7 : K ≤ 7) (hl : l < 4) (hx : x ≤ 100000) (hK : fits K l x = true) (hlo : ∀ j, 1 ≤ j → j < K → fits j l x = false) (w : World) :
   Calls Tryz.prog 112 #[intc x, intc l] w fun e w' => (∃ V N, e = .returned (.tuple #[ptv V, .nilIface]) ∧ Ver w' V N K ∧ w.heap.size ≤ N) ∧ Kept [] w w' := by
  have HK := Lib.hid hK
  have HLO := Lib.hid hlo
  clear hK hlo
  go_enter Tryz.func112, Tryz.ntmps112
  go_wp2_with fail
  go_loopw [6] (fun i wr => ∃ j : Nat, 1 ≤ j ∧ j ≤ K ∧ i = intc j ∧ Kept [] w wr) (fun i _ => (7 - intOf i).toNat)
  case atStart => exact ⟨1, by omega, h1, rfl, Kept.refl _ _⟩
  case round =>
    obtain ⟨j, hj1, hjK, rfl, hk⟩ := hrel
    have i1 : (1 : Int) ≤ j := by omega
    have i7 : (j : Int) ≤ 7 := by omega
    go_wp2_with fail
    refine (version_c j hj1 (by omega) _).mono ?_
    rintro e w1 ⟨⟨V, N, rfl, hV, hN⟩, hk1⟩
    by_cases hlt : j < K
    · have HFj := Lib.hid (HLO.out j hj1 hlt)
      go_wp2_with fail
      refine (willFit_c hV hj1 (by omega) l hl x hx).mono ?_
      rintro e w2 ⟨rfl, hk2⟩
      rw [HFj.out]
      go_wp2_with fail
      go_roundw
      case rel => exact ⟨j + 1, by omega, by omega, by go_num, (hk.trans0 hk1).trans0 hk2⟩
      case measure => simp [intOf]; omega
    · obtain rfl : j = K := by omega
      go_wp2_with fail
      refine (willFit_c hV hj1 (by omega) l hl x hx).mono ?_
      rintro e w2 ⟨rfl, hk2⟩
      rw [HK.out]
      go_wp2_with fail
      go_ret2
      have s1 := hk.size
      exact ⟨⟨V, N, rfl, hV.kept hk2 (by simp), by omega⟩, (hk.trans0 hk1).trans0 hk2⟩
set_option maxRecDepth 100000 in
set_option maxHeartbeats 1000000 in
theorem recommend_c (K l m : Nat) (hm : m = 1 ∨ m = 2 ∨ m = 4) {w w1 w2 : World} {B B2 C1 C2 : Nat} {bs ds : List Bool} (hb : BAc B C1 bs w1 w) (hd : BAc B2 C2 ds w2 w) (l1 : bs.length ≤ 20000) (l2 : ds.length ≤ 20000)
    (h1 : 1 ≤ K) (h7 : K ≤ 7) (hl : l < 4) (hK : fits K l (bs.length + cbits m + ds.length) = true) (hlo : ∀ j, 1 ≤ j → j < K → fits j l (bs.length + cbits m + ds.length) = false) :
   Calls Tryz.prog 49 #[intc l, intc m, ptv B, ptv B2] w fun e w' => (∃ V N, e = .returned (.tuple #[ptv V, .nilIface]) ∧ Ver w' V N K ∧ w.heap.size ≤ N) ∧ Kept [] w w' := by
  have HK := Lib.hid hK
  have HLO := Lib.hid hlo
  clear hK hlo
  have hcb := cbits_le m
  go_enter Tryz.func49, Tryz.ntmps49
  go_wp2_with fail
  refine (version_c 1 (by omega) (by omega) _).mono ?_
  rintro e wa ⟨⟨V, N, rfl, hV, hN⟩, hk1⟩
  go_wp2_with fail
  refine (bitsNeeded_c hV (by omega) m hm (hb.quiet hk1) (hd.quiet hk1) l1 l2).mono ?_
  rintro e wb ⟨rfl, hk2⟩
  go_wp2_with fail
  refine (chooseVersion_c K l _ h1 h7 hl (by omega) HK.out HLO.out _).mono ?_
  rintro e wc ⟨⟨V2, N2, rfl, hV2, hN2⟩, hk3⟩
  have k3 := (hk1.trans0 hk2).trans0 hk3
  go_wp2_with fail
  refine (bitsNeeded_c hV2 (by omega) m hm (hb.quiet k3) (hd.quiet k3) l1 l2).mono ?_
  rintro e wd ⟨rfl, hk4⟩
  go_wp2_with fail
  refine (chooseVersion_c K l _ h1 h7 hl (by omega) HK.out HLO.out _).mono ?_
  rintro e we ⟨⟨V3, N3, rfl, hV3, hN3⟩, hk5⟩
  go_wp2_with fail
  go_ret2
  have s1 := (k3.trans0 hk4).size
  exact ⟨⟨V3, N3, rfl, hV3, by omega⟩, (k3.trans0 hk4).trans0 hk5⟩
end
end Go.Proofs.YtplpafbkalkchaaGreatDoor
