/- Walks: the code of a byte in the alphanumeric mode. Walks: the tightest mode of a text. Words and contracts for an array of bits that grows; the bits of a text in its mode. Plain laws: bytes of several rows, taken in turns. -/
import Derived.Test.YtplpafbkalkchaaGreatDoorW02
namespace Go.Proofs.YtplpafbkalkchaaGreatDoor
open Go Go.RowKit Go.Proofs
set_option linter.all false

section
/-- The table of the alphanumeric mode. -/
def alphaTab : List Int := [-1, -1, -1, -1, -1, -1, -1, -1, -1, -1, -1, -1, -1, -1, -1, -1, -1, -1, -1, -1, -1, -1, -1, -1, -1, -1, -1, -1, -1, -1, -1, -1,
  36, -1, -1, -1, 37, 38, -1, -1, -1, -1, 39, 40, -1, 41, 42, 43, 0, 1, 2, 3, 4, 5, 6, 7, 8, 9, 44, -1, -1, -1, -1, -1,
  -1, 10, 11, 12, 13, 14, 15, 16, 17, 18, 19, 20, 21, 22, 23, 24, 25, 26, 27, 28, 29, 30, 31, 32, 33, 34, 35, -1, -1, -1, -1, -1]
def alphaCode (c : Nat) : Int := alphaTab.getD c (-1)
/-- The i-th byte of a text. -/
def chr (s : ByteArray) (i : Nat) : Nat := (s.data.toList.getD i 0).toNat
theorem chr_lt (s : ByteArray) (i : Nat) : chr s i < 256 := by unfold chr; exact UInt8.toNat_lt _
theorem chr_at (s : ByteArray) (i : Nat) (h : i < s.size) : (s[i]).toNat = chr s i := by
  unfold chr
  have : s.data.toList.getD i 0 = s[i] := by
    rw [List.getD_eq_getElem?_getD, List.getElem?_eq_getElem (by simpa using h)]; rfl
  rw [this]
/-- The bytes of a text. -/
def chars (s : ByteArray) : List Nat := s.data.toList.map (·.toNat)
theorem chars_len (s : ByteArray) : (chars s).length = s.size := by simp [chars]
theorem chars_get (s : ByteArray) (i : Nat) (h : i < s.size) : (chars s)[i]? = some (chr s i) := by
  unfold chars chr
  rw [List.getElem?_map, List.getD_eq_getElem?_getD, List.getElem?_eq_getElem (by simpa using h)]; rfl
theorem chars_take (s : ByteArray) (i : Nat) (h : i < s.size) : (chars s).take (i + 1) = (chars s).take i ++ [chr s i] := by
  have hl := chars_len s
  rw [List.take_add_one, chars_get s i h]; rfl
abbrev intk (n : Nat) : Value := .int .i64 (n : Int)
def isDig (c : Nat) : Bool := decide (48 ≤ c) && decide (c ≤ 57)
def isAl (c : Nat) : Bool := isDig c || alphaCode c != -1
def modeOf (cs : List Nat) : Nat := if cs.all isDig then 1 else if cs.all isAl then 2 else 4
set_option maxRecDepth 100000 in
set_option maxHeartbeats 2000000 in
theorem alphaTable_c (w : World) : Calls Tryz.prog 136 #[] w fun e w' => e = .returned (slv w.heap.size 96 96) ∧ Blk w' w.heap.size (alphaTab.map (.int .i64)) 3 ∧ Kept [] w w' ∧ w'.heap.size = w.heap.size + 1 := by
  go_enter Tryz.func136, Tryz.ntmps136
  go_wp2
  go_ret
  exact ⟨rfl, Blk.new w (alphaTab.map (.int .i64)) 3, (Kept.refl _ _).alloc _, by simp⟩
set_option maxRecDepth 100000 in
theorem alphaCode_c (c : Nat) (hc : c < 256) (w : World) : Calls Tryz.prog 100 #[.int .u8 (c : Int)] w fun e w' => e = .returned (.int .i64 (alphaCode c)) ∧ Kept [] w w' := by
  have hci : (c : Int) < 256 := by omega
  by_cases h : c < 96
  · have hi : (c : Int) < 96 := by omega
    have hget : (alphaTab.map (Value.int .i64))[c]? = some (.int .i64 (alphaCode c)) := by
      unfold alphaCode
      rw [List.getElem?_map, List.getD_eq_getElem?_getD, List.getElem?_eq_getElem (show c < alphaTab.length from h)]; rfl
    have HG := Lib.hid hget
    clear hget
    go_enter Tryz.func100, Tryz.ntmps100
    go_wp2_with fail
    refine (alphaTable_c _).mono ?_
    rintro e w1 ⟨rfl, hb1, hk1, hs1⟩
    have HS1 := Lib.hid hs1; clear hs1
    go_wp2_with fail
    refine (alphaTable_c _).mono ?_
    rintro e w2 ⟨rfl, hb2, hk2, hs2⟩
    have g := hb2.at HG.out
    have HS2 := Lib.hid hs2; clear hs2
    go_wp2_with fail
    go_ret
    exact ⟨rfl, hk1.trans0 hk2⟩
  · have hi : ¬ (c : Int) < 96 := by omega
    have hget : alphaCode c = -1 := by
      unfold alphaCode
      rw [List.getD_eq_getElem?_getD, List.getElem?_eq_none (show alphaTab.length ≤ c by show 96 ≤ c; omega)]; rfl
    rw [hget]
    clear hget
    go_enter Tryz.func100, Tryz.ntmps100
    go_wp2_with fail
    refine (alphaTable_c _).mono ?_
    rintro e w1 ⟨rfl, hb1, hk1, hs1⟩
    have HS1 := Lib.hid hs1; clear hs1
    go_wp2_with fail
    go_ret
    exact ⟨rfl, hk1⟩
end

section
theorem all_take_succ (p : Nat → Bool) (s : ByteArray) (k : Nat) (h : k < s.size) : ((chars s).take (k + 1)).all p = (((chars s).take k).all p && p (chr s k)) := by
  rw [chars_take s k h, List.all_append]; simp
theorem any_take_succ (p : Nat → Bool) (s : ByteArray) (k : Nat) (h : k < s.size) : ((chars s).take (k + 1)).any p = (((chars s).take k).any p || p (chr s k)) := by
  rw [chars_take s k h, List.any_append]; simp
theorem modeOf_no (s : ByteArray) (k : Nat) (h : k < s.size) (hp : isAl (chr s k) = false) : modeOf (chars s) = 4 := by
  have hm : chr s k ∈ chars s := List.mem_of_getElem? (chars_get s k h)
  unfold modeOf
  rw [if_neg (by intro h2; rw [List.all_eq_true] at h2; have := h2 _ hm; unfold isAl at hp; rw [this] at hp; cases hp),
    if_neg (by intro h2; rw [List.all_eq_true] at h2; have := h2 _ hm; rw [hp] at this; cases this)]
theorem modeOf_yes (cs : List Nat) (hne : cs ≠ []) (h : cs.all isAl = true) : modeOf cs = if cs.any (fun c => !isDig c) then 2 else 1 := by
  unfold modeOf
  by_cases hd : cs.all isDig = true
  · have : cs.any (fun c => !isDig c) = false := by
      rw [List.any_eq_false]; intro x hx; rw [List.all_eq_true] at hd; simp [hd x hx]
    rw [if_pos hd, this]; rfl
  · have : cs.any (fun c => !isDig c) = true := by
      rw [List.any_eq_true]; rw [List.all_eq_true] at hd; simp at hd; obtain ⟨x, hx, h1⟩ := hd; exact ⟨x, hx, by simp [h1]⟩
    rw [if_neg hd, if_pos h, this]; rfl
theorem any_dig (cs : List Nat) (hne : cs ≠ []) (h : cs.any (fun c => !isDig c) = false) : cs.any isDig = true := by
  cases cs with
  | nil => exact absurd rfl hne
  | cons a l => rw [List.any_eq_false] at h; have := h a (by simp); simp at this; simp [this]
set_option maxRecDepth 100000 in
set_option maxHeartbeats 1000000 in
theorem chooseMode_c (s : ByteArray) (w : World) (hs : s.size ≤ 1000) (h0 : 0 < s.size) : Calls Tryz.prog 40 #[.string s] w fun e w' => e = .returned (intk (modeOf (chars s))) ∧ Kept [] w w' := by
  have hsi : (s.size : Int) ≤ 1000 := by omega
  go_enter Tryz.func40, Tryz.ntmps40
  go_wp2_with fail
  go_loopw [3, 4, 5] (fun a b i wr => ∃ (k : Nat) (x y : Bool), k ≤ s.size ∧ i = .int .i64 k ∧ a = .bool x ∧ b = .bool y ∧ Hid (x = ((chars s).take k).any isDig ∧ y = ((chars s).take k).any (fun c => !isDig c) ∧ ((chars s).take k).all isAl = true) ∧ Kept [] w wr) (fun _ _ i _ => s.size - (intOf i).toNat)
  case atStart => exact ⟨0, false, false, Nat.zero_le _, rfl, rfl, rfl, Lib.hid ⟨by simp, by simp, by simp⟩, Kept.refl _ _⟩
  case round =>
    obtain ⟨k, x, y, hk, rfl, rfl, rfl, HX, hkp⟩ := hrel
    by_cases hlt : k < s.size
    · have hlti : (k : Int) < (s.size : Int) := by omega
      have hch := chr_at s k hlt
      have hc9 := chr_lt s k
      have HB : ∀ (x' y' : Bool), isAl (chr s k) = true → x' = (x || isDig (chr s k)) → y' = (y || !isDig (chr s k)) →
          Hid (x' = ((chars s).take (k + 1)).any isDig ∧ y' = ((chars s).take (k + 1)).any (fun c => !isDig c) ∧ ((chars s).take (k + 1)).all isAl = true) := by
        intro x' y' h1 h2 h3
        obtain ⟨e1, e2, e3⟩ := HX.out
        exact Lib.hid ⟨by rw [any_take_succ _ s k hlt, h2, e1], by rw [any_take_succ _ s k hlt, h3, e2], by rw [all_take_succ _ s k hlt, e3, h1]; rfl⟩
      have HB' := Lib.hid HB
      clear HB
      by_cases hd : isDig (chr s k) = true
      · have h2 : 48 ≤ chr s k ∧ chr s k ≤ 57 := by unfold isDig at hd; simpa using hd
        have HN := HB'.out true y (by unfold isAl; rw [hd]; rfl) (by rw [hd]; simp) (by rw [hd]; simp)
        have i1 : (48 : Int) ≤ (s[k].toNat : Int) := by omega
        have i2 : (s[k].toNat : Int) ≤ 57 := by omega
        clear hch hd HB' h2
        go_wp2_with fail
        go_roundw
        case rel => exact ⟨k + 1, true, y, by omega, by go_num, rfl, rfl, HN, hkp⟩
        case measure => simp [intOf]; omega
      · rw [Bool.not_eq_true] at hd
        have hnd : ¬ (48 ≤ chr s k ∧ chr s k ≤ 57) := by intro h; unfold isDig at hd; simp at hd; omega
        have hc256 : s[k].toNat < 256 := by omega
        have hac : alphaCode s[k].toNat = alphaCode (chr s k) := by rw [hch]
        obtain ⟨v, hv⟩ : ∃ v, alphaCode (chr s k) = v := ⟨_, rfl⟩
        rw [hv] at hac
        by_cases ha : v = -1
        · have hno := modeOf_no s k hlt (by unfold isAl; rw [hd, hv, ha]; rfl)
          have HM := Lib.hid hno
          subst ha
          rcases (show chr s k < 48 ∨ 57 < chr s k by omega) with h2 | h2
          · have i1 : (s[k].toNat : Int) < 48 := by omega
            have H1 := Lib.hid hac
            clear hch hd HB' h2 hnd hno hv hac
            go_wp2_with fail
            refine (alphaCode_c _ hc256 _).mono ?_
            rintro e w1 ⟨rfl, hk1⟩
            rw [H1.out]
            go_wp2_with fail
            go_ret
            exact ⟨by rw [HM.out]; rfl, hkp.trans0 hk1⟩
          · have i1 : 57 < (s[k].toNat : Int) := by omega
            have i2 : 48 ≤ (s[k].toNat : Int) := by omega
            have H1 := Lib.hid hac
            clear hch hd HB' h2 hnd hno hv hac
            go_wp2_with fail
            refine (alphaCode_c _ hc256 _).mono ?_
            rintro e w1 ⟨rfl, hk1⟩
            rw [H1.out]
            go_wp2_with fail
            go_ret
            exact ⟨by rw [HM.out]; rfl, hkp.trans0 hk1⟩
        · have hvb : (v == -1) = false := by simpa using ha
          have hvn : (v != -1) = true := by simpa using ha
          have HN := HB'.out x true (by unfold isAl; rw [hd, hv, hvn]; rfl) (by rw [hd]; simp) (by rw [hd]; simp)
          rcases (show chr s k < 48 ∨ 57 < chr s k by omega) with h2 | h2
          · have i1 : (s[k].toNat : Int) < 48 := by omega
            have H1 := Lib.hid hac
            clear hch hd HB' h2 hnd hv hac
            go_wp2_with fail
            refine (alphaCode_c _ hc256 _).mono ?_
            rintro e w1 ⟨rfl, hk1⟩
            rw [H1.out]
            go_wp2_with fail
            go_roundw
            case rel => exact ⟨k + 1, x, true, by omega, by go_num, rfl, rfl, HN, hkp.trans0 hk1⟩
            case measure => simp [intOf]; omega
          · have i1 : 57 < (s[k].toNat : Int) := by omega
            have i2 : 48 ≤ (s[k].toNat : Int) := by omega
            have H1 := Lib.hid hac
            clear hch hd HB' h2 hnd hv hac
            go_wp2_with fail
            refine (alphaCode_c _ hc256 _).mono ?_
            rintro e w1 ⟨rfl, hk1⟩
            rw [H1.out]
            go_wp2_with fail
            go_roundw
            case rel => exact ⟨k + 1, x, true, by omega, by go_num, rfl, rfl, HN, hkp.trans0 hk1⟩
            case measure => simp [intOf]; omega
    · obtain rfl : k = s.size := by omega
      have hall : (chars s).take s.size = chars s := List.take_of_length_le (by rw [chars_len]; omega)
      obtain ⟨e1, e2, e3⟩ := HX.out
      rw [hall] at e1 e2 e3
      have hne : chars s ≠ [] := by intro h; have := chars_len s; rw [h] at this; simp at this; omega
      have hm := modeOf_yes (chars s) hne e3
      rw [← e2] at hm
      have HM := Lib.hid hm
      cases y with
      | true =>
        clear e1 e2 e3 hm hall
        go_wp2_with fail
        go_ret
        exact ⟨by rw [HM.out]; rfl, hkp⟩
      | false =>
        have hx := any_dig (chars s) hne e2.symm
        rw [← e1] at hx
        subst hx
        clear e1 e2 e3 hm hall
        go_wp2_with fail
        go_ret
        exact ⟨by rw [HM.out]; rfl, hkp⟩
end

section
/-- The array at B holds the bits bs, in its first block or in a younger one; from w0 on nothing else has turned. -/
def BAc (B C0 : Nat) (bs : List Bool) (w0 w : World) : Prop := ∃ C ws, BA w B C ws bs ∧ Kept [B, C0] w0 w ∧ (C = C0 ∨ w0.heap.size ≤ C)
theorem BAc.start {w : World} {B C : Nat} {ws : List Nat} {bs : List Bool} (h : BA w B C ws bs) : BAc B C bs w w := ⟨C, ws, h, Kept.refl _ _, .inl rfl⟩
theorem BAc.keeps {B C0 : Nat} {bs : List Bool} {w0 w : World} (h : BAc B C0 bs w0 w) : Kept [B, C0] w0 w := by obtain ⟨_, _, _, h, _⟩ := h; exact h
theorem BAc.kept {B C0 : Nat} {bs : List Bool} {w0 w w' : World} {S : List Nat} (h : BAc B C0 bs w0 w) (hk : Kept S w w') (hB : B ∉ S) (hC : C0 ∉ S) (hS : ∀ x ∈ S, w0.heap.size ≤ x ∧ w.heap.size ≤ x) : BAc B C0 bs w0 w' := by
  obtain ⟨C, ws, hb, hk0, hC'⟩ := h
  have hl := hb.ar.lt
  refine ⟨C, ws, hb.kept hk hB (fun hx => by have := (hS _ hx).2; omega), hk0.trans hk (fun x hx hl => by have := (hS _ hx).1; omega), hC'⟩
theorem BAc.quiet {B C0 : Nat} {bs : List Bool} {w0 w w' : World} (h : BAc B C0 bs w0 w) (hk : Kept [] w w') : BAc B C0 bs w0 w' := h.kept hk (by simp) (by simp) (by simp)
theorem BAc.to {B C0 C L r : Nat} {bs' : List Bool} {w0 w w' : World} (hk : Kept [B, C0] w0 w) (hC : C = C0 ∨ w0.heap.size ≤ C) (h : BAto B C L bs' r w w') : BAc B C0 bs' w0 w' := by
  obtain ⟨C', ws', hb, _, hk', hC', _⟩ := h
  have hs := hk.size
  refine ⟨C', ws', hb, hk.trans hk' (fun x hx hl => ?_), ?_⟩
  · simp at hx ⊢
    rcases hx with hx | hx
    · exact .inl hx
    · rcases hC with h | h
      · right; omega
      · omega
  · rcases hC' with h | h
    · rcases hC with h2 | h2
      · left; omega
      · right; omega
    · right; omega
theorem BAc.trans {B C0 : Nat} {bs bs' : List Bool} {w0 w1 w : World} {C1 : Nat} {ws : List Nat} (h : BA w1 B C1 ws bs) (hk : Kept [B, C0] w0 w1) (hC : C1 = C0 ∨ w0.heap.size ≤ C1) (h2 : BAc B C1 bs' w1 w) : BAc B C0 bs' w0 w := by
  obtain ⟨C', ws', hb, hk', hC'⟩ := h2
  have hs := hk.size
  refine ⟨C', ws', hb, hk.trans hk' (fun x hx hl => ?_), ?_⟩
  · simp at hx ⊢
    rcases hx with hx | hx
    · exact .inl hx
    · rcases hC with h | h
      · right; omega
      · omega
  · rcases hC' with h | h
    · rcases hC with h2 | h2
      · left; omega
      · right; omega
    · right; omega
theorem bits_k {B C0 : Nat} {bs : List Bool} {w0 w : World} (h : BAc B C0 bs w0 w) (x : Int) (v k : Nat) (kI : Int) (hx : x = v) (hkI : kI = k) (hv : v < 2147483648) (hk : k ≤ 32) (hr : bs.length ≤ 50000) :
   Calls Tryz.prog 103 #[ptv B, .int .i64 x, .int .i64 kI] w fun e w' => e = .returned .nilIface ∧ BAc B C0 (bs ++ vbits v k k) w0 w' := by
  obtain ⟨C, ws, hb, hk0, hC⟩ := h
  subst hx; subst hkI
  exact (appendBits_c w B C ws bs hb v k hv hk hr).mono fun e w' ⟨he, h2⟩ => ⟨he, BAc.to hk0 hC h2⟩
theorem bit_k {B C0 : Nat} {bs : List Bool} {w0 w : World} (h : BAc B C0 bs w0 w) (b : Bool) (hr : bs.length ≤ 50000) :
   Calls Tryz.prog 114 #[ptv B, .bool b] w fun e w' => e = .returned (.tuple #[]) ∧ BAc B C0 (bs ++ [b]) w0 w' := by
  obtain ⟨C, ws, hb, hk0, hC⟩ := h
  exact (appendBit_c w B C ws bs hb b hr).mono fun e w' ⟨he, h2⟩ => ⟨he, BAc.to hk0 hC h2⟩
theorem size_k {B C0 : Nat} {bs : List Bool} {w0 w : World} (h : BAc B C0 bs w0 w) :
   Calls Tryz.prog 110 #[ptv B] w fun e w' => e = .returned (.int .i64 bs.length) ∧ w = w' := by
  obtain ⟨C, ws, hb, hk0, hC⟩ := h
  exact getSize_c w B C ws bs hb
theorem sizeInBytes_k {B C0 : Nat} {bs : List Bool} {w0 w : World} (h : BAc B C0 bs w0 w) :
   Calls Tryz.prog 51 #[ptv B] w fun e w' => e = .returned (.int .i64 (((bs.length + 7) / 8 : Nat) : Int)) ∧ w = w' := by
  obtain ⟨C, ws, hb, hk0, hC⟩ := h
  exact sizeInBytes_c w B C ws bs hb
theorem qmodeBits_c (m : Nat) (w : World) : Calls Tryz.prog 104 #[.int .i64 (m : Int)] w fun e w' => e = .returned (.int .i64 (m : Int)) ∧ w = w' := by
  go_enter Tryz.func104, Tryz.ntmps104
  go_wp2
  go_ret
  exact ⟨rfl, rfl⟩
theorem appendMode_k {B C0 : Nat} {bs : List Bool} {w0 w : World} (h : BAc B C0 bs w0 w) (m : Nat) (hm : m < 16) (hr : bs.length ≤ 50000) :
   Calls Tryz.prog 43 #[.int .i64 (m : Int), ptv B] w fun e w' => e = .returned (.tuple #[]) ∧ BAc B C0 (bs ++ vbits m 4 4) w0 w' := by
  go_enter Tryz.func43, Tryz.ntmps43
  go_wp2_with fail
  refine (qmodeBits_c m _).mono ?_
  rintro e w1 ⟨rfl, rfl⟩
  go_wp2_with fail
  refine (bits_k h _ m 4 _ rfl rfl (by omega) (by omega) hr).mono ?_
  rintro e w1 ⟨rfl, h1⟩
  go_wp2_with fail
  go_end0
  exact ⟨rfl, h1⟩
/-- The bits of digits. -/
def numBits : List Nat → List Bool
  | a :: b :: c :: r => vbits ((a - 48) * 100 + (b - 48) * 10 + (c - 48)) 10 10 ++ numBits r
  | [a, b] => vbits ((a - 48) * 10 + (b - 48)) 7 7
  | [a] => vbits (a - 48) 4 4
  | [] => []
/-- The bits of alphanumeric text. -/
def alphaBits : List Nat → List Bool
  | a :: b :: r => vbits ((alphaCode a).toNat * 45 + (alphaCode b).toNat) 11 11 ++ alphaBits r
  | [a] => vbits (alphaCode a).toNat 6 6
  | [] => []
/-- The bits of bytes. -/
def byteBits (cs : List Nat) : List Bool := cs.flatMap fun c => vbits c 8 8
theorem numBits_len (cs : List Nat) : (numBits cs).length ≤ 10 * cs.length := by
  induction cs using numBits.induct <;> simp_all [numBits, vbits_length] <;> omega
theorem alphaBits_len (cs : List Nat) : (alphaBits cs).length ≤ 11 * cs.length := by
  induction cs using alphaBits.induct <;> simp_all [alphaBits, vbits_length] <;> omega
theorem byteBits_len (cs : List Nat) : (byteBits cs).length = 8 * cs.length := by
  unfold byteBits
  induction cs with
  | nil => rfl
  | cons a r ih => rw [List.flatMap_cons, List.length_append, ih, vbits_length, List.length_cons]; omega
theorem drop_chars (s : ByteArray) (i : Nat) (h : i < s.size) : (chars s).drop i = chr s i :: (chars s).drop (i + 1) := by
  have hl : i < (chars s).length := by rw [chars_len]; exact h
  rw [List.drop_eq_getElem_cons hl]
  congr 1
  have := chars_get s i h
  rw [List.getElem?_eq_getElem hl] at this
  simpa using this
theorem drop_all (s : ByteArray) (i : Nat) (h : s.size ≤ i) : (chars s).drop i = [] := List.drop_eq_nil_of_le (by rw [chars_len]; exact h)
theorem chr_mem (s : ByteArray) (i : Nat) (h : i < s.size) : chr s i ∈ chars s := List.mem_of_getElem? (chars_get s i h)
theorem dig_of {s : ByteArray} (h : (chars s).all isDig = true) (i : Nat) (hi : i < s.size) : 48 ≤ chr s i ∧ chr s i ≤ 57 := by
  rw [List.all_eq_true] at h
  have := h _ (chr_mem s i hi)
  unfold isDig at this
  simpa using this
set_option maxRecDepth 100000 in
set_option maxHeartbeats 1000000 in
theorem appendNum_k {B C0 : Nat} {bs : List Bool} {w0 w : World} (h : BAc B C0 bs w0 w) (s : ByteArray) (hs : s.size ≤ 1000) (hd : (chars s).all isDig = true) (hr : bs.length ≤ 10000) :
   Calls Tryz.prog 105 #[.string s, ptv B] w fun e w' => e = .returned (.tuple #[]) ∧ BAc B C0 (bs ++ numBits (chars s)) w0 w' := by
  have hsi : (s.size : Int) ≤ 1000 := by omega
  have HD := Lib.hid hd
  clear hd
  have hnl := numBits_len (chars s)
  rw [chars_len] at hnl
  go_enter Tryz.func105, Tryz.ntmps105
  go_wp2_with fail
  go_loopw [5] (fun i wr => ∃ (k : Nat) (X : List Bool), k ≤ s.size ∧ i = .int .i64 k ∧ Hid (X ++ numBits ((chars s).drop k) = numBits (chars s)) ∧ BAc B C0 (bs ++ X) w0 wr) (fun i _ => s.size - (intOf i).toNat)
  case atStart => exact ⟨0, [], Nat.zero_le _, rfl, Lib.hid (by simp), by simpa using h⟩
  case round =>
    obtain ⟨k, X, hk, rfl, HX, hb⟩ := hrel
    have hxl : (bs ++ X).length ≤ 50000 := by
      have := congrArg List.length HX.out
      rw [List.length_append] at this ⊢; omega
    by_cases hlt : k < s.size
    · have hlti : (k : Int) < (s.size : Int) := by omega
      have hc0 := chr_at s k hlt
      have hd0 := dig_of HD.out k hlt
      have a1 : 48 ≤ (s[k].toNat : Int) := by omega
      have a2 : (s[k].toNat : Int) ≤ 57 := by omega
      by_cases h2 : k + 2 < s.size
      · have h2i : (k : Int) + 2 < (s.size : Int) := by omega
        have h1i : (k : Int) + 1 < (s.size : Int) := by omega
        have hc1 := chr_at s (k + 1) (by omega)
        have hd1 := dig_of HD.out (k + 1) (by omega)
        have hc2 := chr_at s (k + 2) (by omega)
        have hd2 := dig_of HD.out (k + 2) (by omega)
        have b1 : 48 ≤ (s[k + 1].toNat : Int) := by omega
        have b2 : (s[k + 1].toNat : Int) ≤ 57 := by omega
        have c1 : 48 ≤ (s[k + 2].toNat : Int) := by omega
        have c2 : (s[k + 2].toNat : Int) ≤ 57 := by omega
        have HV := Lib.hid (show ((s[k].toNat : Int) - 48) * 100 + ((s[k + 1].toNat : Int) - 48) * 10 + ((s[k + 2].toNat : Int) - 48) = (((chr s k - 48) * 100 + (chr s (k + 1) - 48) * 10 + (chr s (k + 2) - 48) : Nat) : Int) by omega)
        have hd9 : (chr s k - 48) * 100 + (chr s (k + 1) - 48) * 10 + (chr s (k + 2) - 48) < 2147483648 := by omega
        have HN : Hid ((X ++ vbits ((chr s k - 48) * 100 + (chr s (k + 1) - 48) * 10 + (chr s (k + 2) - 48)) 10 10) ++ numBits ((chars s).drop (k + 3)) = numBits (chars s)) := Lib.hid (by
          rw [← HX.out, drop_chars s k hlt, drop_chars s (k + 1) (by omega), drop_chars s (k + 2) h2, numBits, List.append_assoc])
        clear hc0 hc1 hc2 hd0 hd1 hd2
        go_wp2_with fail
        refine (bits_k hb _ _ 10 _ HV.out rfl hd9 (by omega) hxl).mono ?_
        rintro e w1 ⟨rfl, hb1⟩
        go_wp2_with fail
        go_roundw
        case rel => exact ⟨k + 3, _, by omega, by go_num, HN, by rw [← List.append_assoc]; exact hb1⟩
        case measure => simp [intOf]; omega
      · have h2i : ¬ (k : Int) + 2 < (s.size : Int) := by omega
        by_cases h1 : k + 1 < s.size
        · have h1i : (k : Int) + 1 < (s.size : Int) := by omega
          have hc1 := chr_at s (k + 1) (by omega)
          have hd1 := dig_of HD.out (k + 1) (by omega)
          have b1 : 48 ≤ (s[k + 1].toNat : Int) := by omega
          have b2 : (s[k + 1].toNat : Int) ≤ 57 := by omega
          have HV := Lib.hid (show ((s[k].toNat : Int) - 48) * 10 + ((s[k + 1].toNat : Int) - 48) = (((chr s k - 48) * 10 + (chr s (k + 1) - 48) : Nat) : Int) by omega)
          have hd9 : (chr s k - 48) * 10 + (chr s (k + 1) - 48) < 2147483648 := by omega
          have HN : Hid ((X ++ vbits ((chr s k - 48) * 10 + (chr s (k + 1) - 48)) 7 7) ++ numBits ((chars s).drop (k + 2)) = numBits (chars s)) := Lib.hid (by
            rw [← HX.out, drop_chars s k hlt, drop_chars s (k + 1) (by omega), drop_all s (k + 1 + 1) (by omega), numBits, numBits, List.append_nil])
          clear hc0 hc1 hd0 hd1
          go_wp2_with fail
          refine (bits_k hb _ _ 7 _ HV.out rfl hd9 (by omega) hxl).mono ?_
          rintro e w1 ⟨rfl, hb1⟩
          go_wp2_with fail
          go_roundw
          case rel => exact ⟨k + 2, _, by omega, by go_num, HN, by rw [← List.append_assoc]; exact hb1⟩
          case measure => simp [intOf]; omega
        · have h1i : ¬ (k : Int) + 1 < (s.size : Int) := by omega
          have HV := Lib.hid (show ((s[k].toNat : Int) - 48) = ((chr s k - 48 : Nat) : Int) by omega)
          have hd9 : (chr s k - 48) < 2147483648 := by omega
          have HN : Hid ((X ++ vbits (chr s k - 48) 4 4) ++ numBits ((chars s).drop (k + 1)) = numBits (chars s)) := Lib.hid (by
            rw [← HX.out, drop_chars s k hlt, drop_all s (k + 1) (by omega), numBits, numBits, List.append_nil])
          clear hc0 hd0
          go_wp2_with fail
          refine (bits_k hb _ _ 4 _ HV.out rfl hd9 (by omega) hxl).mono ?_
          rintro e w1 ⟨rfl, hb1⟩
          go_wp2_with fail
          go_roundw
          case rel => exact ⟨k + 1, _, by omega, by go_num, HN, by rw [← List.append_assoc]; exact hb1⟩
          case measure => simp [intOf]; omega
    · obtain rfl : k = s.size := by omega
      have HF : Hid (BAc B C0 (bs ++ numBits (chars s)) w0 wr) := by
        have := HX.out
        rw [drop_all s s.size (Nat.le_refl _), numBits, List.append_nil] at this
        rw [← this]; exact Lib.hid hb
      go_wp2_with fail
      go_end0
      exact ⟨rfl, HF.out⟩
end

section
/-- The i-th bytes of the rows that have one. -/
def colOf (rows : List (List Nat)) (i : Nat) : List Nat := rows.flatMap fun r => (r[i]?).toList
/-- The first m of each row, in turns. -/
def ilv (rows : List (List Nat)) : Nat → List Nat
  | 0 => []
  | m + 1 => ilv rows m ++ colOf rows m
theorem colOf_take (rows : List (List Nat)) (i j : Nat) (h : j < rows.length) : colOf (rows.take (j + 1)) i = colOf (rows.take j) i ++ ((rows[j])[i]?).toList := by
  unfold colOf
  rw [List.take_succ_eq_append_getElem h, List.flatMap_append]; simp
theorem byteBits_append (a b : List Nat) : byteBits (a ++ b) = byteBits a ++ byteBits b := by unfold byteBits; rw [List.flatMap_append]
theorem byteBits_one (x : Nat) : byteBits [x] = vbits x 8 8 := by unfold byteBits; simp
theorem colOf_len (rows : List (List Nat)) (i : Nat) : (colOf rows i).length = (rows.map fun r => if i < r.length then 1 else 0).sum := by
  unfold colOf
  induction rows with
  | nil => rfl
  | cons r rest ih =>
    rw [List.flatMap_cons, List.length_append, ih, List.map_cons, List.sum_cons]
    congr 1
    split
    · rename_i h; rw [List.getElem?_eq_getElem h]; rfl
    · rename_i h; rw [List.getElem?_eq_none (by omega)]; rfl
theorem ilv_len (rows : List (List Nat)) (m : Nat) : (ilv rows m).length = (rows.map fun r => min r.length m).sum := by
  induction m with
  | zero =>
    unfold ilv
    induction rows with
    | nil => rfl
    | cons r rest ih => rw [List.map_cons, List.sum_cons, Nat.min_zero, Nat.zero_add]; exact ih
  | succ m ih =>
    unfold ilv
    rw [List.length_append, ih, colOf_len]
    clear ih
    induction rows with
    | nil => rfl
    | cons r rest ih =>
      simp only [List.map_cons, List.sum_cons]
      have : min r.length (m + 1) = min r.length m + if m < r.length then 1 else 0 := by split <;> omega
      omega
theorem ilv_full (rows : List (List Nat)) (m : Nat) (h : ∀ r ∈ rows, r.length ≤ m) : (ilv rows m).length = (rows.map fun r => r.length).sum := by
  rw [ilv_len]
  congr 1
  exact List.map_congr_left (fun r hr => Nat.min_eq_left (h r hr))
theorem sum_le_mul (l : List (List Nat)) (f : List Nat → Nat) (c : Nat) (h : ∀ x ∈ l, f x ≤ c) : (l.map f).sum ≤ l.length * c := by
  induction l with
  | nil => simp
  | cons a r ih =>
    rw [List.map_cons, List.sum_cons, List.length_cons, Nat.succ_mul]
    have h1 := h a (by simp)
    have h2 := ih (fun x hx => h x (by simp [hx]))
    omega
theorem ilv_few (rows : List (List Nat)) (m c : Nat) (h : ∀ r ∈ rows, r.length ≤ c) : (ilv rows m).length ≤ rows.length * c := by
  rw [ilv_len]
  exact sum_le_mul _ _ _ (fun r hr => by have := h r hr; omega)
theorem colOf_few (rows : List (List Nat)) (i : Nat) : (colOf rows i).length ≤ rows.length := by
  rw [colOf_len]
  have := sum_le_mul rows (fun r => if i < r.length then 1 else 0) 1 (fun r _ => by split <;> omega)
  omega
theorem col_few (rows : List (List Nat)) (pre : List Nat) (k j c n : Nat) (h : ∀ r ∈ rows, r.length ≤ c) (hn : rows.length ≤ n) : (pre ++ ilv rows k ++ colOf (rows.take j) k).length ≤ pre.length + n * c + n := by
  rw [List.length_append, List.length_append]
  have h1 := ilv_few rows k c h
  have h2 := colOf_few (rows.take j) k
  rw [List.length_take] at h2
  have h3 : rows.length * c ≤ n * c := Nat.mul_le_mul_right c hn
  omega
end
end Go.Proofs.YtplpafbkalkchaaGreatDoor
