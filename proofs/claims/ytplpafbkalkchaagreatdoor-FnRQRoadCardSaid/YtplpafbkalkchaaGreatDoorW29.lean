/- Walks: the text of a draw. Walk: a text of printable letters. -/
import Derived.Laws.IdiomStrings
import Derived.Test.YtplpafbkalkchaaGreatDoorW11
import Derived.Test.YtplpafbkalkchaaGreatDoorW01
namespace Go.Proofs.YtplpafbkalkchaaGreatDoor
open Go Go.RowKit Go.Proofs
set_option linter.all false

section
/-- The text of bytes. -/
def textOf (xs : List Nat) : ByteArray := ⟨(xs.map UInt8.ofNat).toArray⟩
theorem textOf_size (xs : List Nat) : (textOf xs).size = xs.length := by
  show (xs.map UInt8.ofNat).toArray.size = xs.length
  simp
theorem chars_textOf (xs : List Nat) (h : ∀ x ∈ xs, x < 256) : chars (textOf xs) = xs := by
  unfold chars textOf
  simp only [List.map_map]
  conv => rhs; rw [← List.map_id xs]
  apply List.map_congr_left
  intro x hx
  have := h x hx
  simp; omega
theorem textOf_chars (s : ByteArray) : textOf (chars s) = s := by
  unfold chars textOf
  rw [List.map_map]
  have : (fun x : UInt8 => UInt8.ofNat x.toNat) = id := by funext x; simp
  have h2 : (UInt8.ofNat ∘ fun x : UInt8 => x.toNat) = id := this
  rw [h2, List.map_id]
theorem conv_text {w : World} {g : Nat} {xs : List Nat} {rest : List Value} (hb : Blk w g (xs.map u8c ++ rest) 5) (hx : ∀ x ∈ xs, x < 256) (cap : Nat) :
    (convert 35 9 (.slice (some ⟨g, 0, none⟩) xs.length cap)).run Tryz.prog w = .ok (.string (textOf xs)) w := by
  have h := run_convert_bytes_back (P := Tryz.prog) w 35 9 5 ⟨g, 0, none⟩ cap (xs.map UInt8.ofNat) Tryz.underlying35 Tryz.underlying5 Tryz.underlying9 (fun j hj => by
    have hj' : j < xs.length := by simpa using hj
    have := hx xs[j] (List.getElem_mem hj')
    have ea : (⟨g, 0, none⟩ : Addr).add j = ⟨g, j, none⟩ := by cases j <;> simp [Addr.add]
    rw [ea]
    refine hb.at ?_
    rw [List.getElem?_append_left (by simpa using hj'), List.getElem?_map, List.getElem?_eq_getElem hj']
    simp [u8c]; omega)
  rw [List.length_map] at h
  exact h
theorem alpha_has : ∀ i : Nat, i < 45 → ∃ b, b < 91 ∧ 32 ≤ b ∧ alphaCode b = (i : Int) := by decide +kernel
theorem alpha_other : ∀ b, b < 91 → 32 ≤ b → isDig b = false → decide (65 ≤ b) = false → alphaCode b = if b = 32 then 36 else if b = 36 then 37 else if b = 37 then 38 else if b = 42 then 39 else if b = 43 then 40 else if b = 45 then 41 else if b = 46 then 42 else if b = 47 then 43 else if b = 58 then 44 else -1 := by decide +kernel
theorem alpha_dig : ∀ b, b < 58 → 48 ≤ b → alphaCode b = (b : Int) - 48 := by decide +kernel
theorem alpha_up : ∀ b, b < 91 → 65 ≤ b → alphaCode b = (b : Int) - 65 + 10 := by decide +kernel
theorem others_0 (w : World) : (Go.Instr.index 98 (.agg #[.int .u8 32, .int .u8 36, .int .u8 37, .int .u8 42, .int .u8 43, .int .u8 45, .int .u8 46, .int .u8 47, .int .u8 58]) (.int .i64 0)).run Tryz.prog w = .ok (.int .u8 32) w := by kernel_rfl
theorem others_1 (w : World) : (Go.Instr.index 98 (.agg #[.int .u8 32, .int .u8 36, .int .u8 37, .int .u8 42, .int .u8 43, .int .u8 45, .int .u8 46, .int .u8 47, .int .u8 58]) (.int .i64 1)).run Tryz.prog w = .ok (.int .u8 36) w := by kernel_rfl
theorem others_2 (w : World) : (Go.Instr.index 98 (.agg #[.int .u8 32, .int .u8 36, .int .u8 37, .int .u8 42, .int .u8 43, .int .u8 45, .int .u8 46, .int .u8 47, .int .u8 58]) (.int .i64 2)).run Tryz.prog w = .ok (.int .u8 37) w := by kernel_rfl
theorem others_3 (w : World) : (Go.Instr.index 98 (.agg #[.int .u8 32, .int .u8 36, .int .u8 37, .int .u8 42, .int .u8 43, .int .u8 45, .int .u8 46, .int .u8 47, .int .u8 58]) (.int .i64 3)).run Tryz.prog w = .ok (.int .u8 42) w := by kernel_rfl
theorem others_4 (w : World) : (Go.Instr.index 98 (.agg #[.int .u8 32, .int .u8 36, .int .u8 37, .int .u8 42, .int .u8 43, .int .u8 45, .int .u8 46, .int .u8 47, .int .u8 58]) (.int .i64 4)).run Tryz.prog w = .ok (.int .u8 43) w := by kernel_rfl
theorem others_5 (w : World) : (Go.Instr.index 98 (.agg #[.int .u8 32, .int .u8 36, .int .u8 37, .int .u8 42, .int .u8 43, .int .u8 45, .int .u8 46, .int .u8 47, .int .u8 58]) (.int .i64 5)).run Tryz.prog w = .ok (.int .u8 45) w := by kernel_rfl
theorem others_6 (w : World) : (Go.Instr.index 98 (.agg #[.int .u8 32, .int .u8 36, .int .u8 37, .int .u8 42, .int .u8 43, .int .u8 45, .int .u8 46, .int .u8 47, .int .u8 58]) (.int .i64 6)).run Tryz.prog w = .ok (.int .u8 46) w := by kernel_rfl
theorem others_7 (w : World) : (Go.Instr.index 98 (.agg #[.int .u8 32, .int .u8 36, .int .u8 37, .int .u8 42, .int .u8 43, .int .u8 45, .int .u8 46, .int .u8 47, .int .u8 58]) (.int .i64 7)).run Tryz.prog w = .ok (.int .u8 47) w := by kernel_rfl
theorem others_8 (w : World) : (Go.Instr.index 98 (.agg #[.int .u8 32, .int .u8 36, .int .u8 37, .int .u8 42, .int .u8 43, .int .u8 45, .int .u8 46, .int .u8 47, .int .u8 58]) (.int .i64 8)).run Tryz.prog w = .ok (.int .u8 58) w := by kernel_rfl
theorem qrLevel_c (v : Nat) (hv : v < 256) (w : World) : Calls Tryz.prog 6 #[.int .u8 (v : Int)] w fun e w' => e = .returned (.int .i64 ((v % 4 : Nat) : Int)) ∧ w = w' := by
  have hi : (v : Int) < 256 := by omega
  go_enter Tryz.func6, Tryz.ntmps6
  go_wp2
  go_ret
  exact ⟨ret_int (by omega), rfl⟩
set_option maxRecDepth 100000 in
set_option maxHeartbeats 2000000 in
theorem qrAlpha_c (b : Nat) (h1 : 32 ≤ b) (h2 : b < 91) (w : World) : Calls Tryz.prog 20 #[.int .u8 (b : Int)] w fun e w' => e = .returned (.int .i64 (alphaCode b)) ∧ Kept [] w w' := by
  have i1 : (32 : Int) ≤ b := by omega
  have i2 : (b : Int) < 91 := by omega
  by_cases hd : 48 ≤ b ∧ b ≤ 57
  · have j1 : (48 : Int) ≤ b := by omega
    have j2 : (b : Int) ≤ 57 := by omega
    have e := Lib.hid (alpha_dig b (by omega) hd.1)
    go_enter Tryz.func20, Tryz.ntmps20
    go_wp2_with fail
    go_ret
    exact ⟨by rw [e.out]; rfl, Kept.refl _ _⟩
  · by_cases hu : 65 ≤ b
    · have j1 : (65 : Int) ≤ b := by omega
      have j2 : ¬ (b : Int) ≤ 57 := by omega
      have e := Lib.hid (alpha_up b h2 hu)
      go_enter Tryz.func20, Tryz.ntmps20
      go_wp2_with fail
      go_ret
      exact ⟨by rw [e.out]; rfl, Kept.refl _ _⟩
    · have e := Lib.hid (alpha_other b h2 h1 (by unfold isDig; simp; omega) (by simpa using hu))
      have j3 : (b : Int) < 65 := by omega
      rcases (show b < 48 ∨ (57 < b ∧ 48 ≤ b) by omega) with hb | hb
      case' inl => have j4 : (b : Int) < 48 := by omega
      case' inr =>
        have j4 : (57 : Int) < b := by omega
        have j5 : (48 : Int) ≤ b := by omega
      all_goals
        go_enter Tryz.func20, Tryz.ntmps20
        go_wp2_with fail
        go_loopw [27] (fun s27 wr => ∃ k : Nat, k ≤ 9 ∧ s27 = .int .i64 (k : Int) ∧ w = wr ∧ ∀ j, j < k → [32, 36, 37, 42, 43, 45, 46, 47, 58].getD j 0 ≠ b) (fun s _ => (9 - intOf s).toNat)
        case atStart => exact ⟨0, by omega, rfl, rfl, by intro j hj; omega⟩
        case round =>
          obtain ⟨k, hk, rfl, rfl, hn⟩ := hrel
          have HN := Lib.hid hn
          clear hn
          rcases (show k = 0 ∨ k = 1 ∨ k = 2 ∨ k = 3 ∨ k = 4 ∨ k = 5 ∨ k = 6 ∨ k = 7 ∨ k = 8 ∨ k = 9 by omega) with rfl | rfl | rfl | rfl | rfl | rfl | rfl | rfl | rfl | rfl
          · have ix := others_0 w
            by_cases hb0 : b = 32
            · have E : Hid (alphaCode b = 36) := Lib.hid (by rw [hb0]; decide +kernel)
              have hbi : (b : Int) = 32 := by omega
              go_wp2_with fail
              go_ret
              exact ⟨by rw [E.out]; rfl, Kept.refl _ _⟩
            · have hbi : ¬ (b : Int) = 32 := by omega
              go_wp2_with fail
              go_roundw
              case rel => exact ⟨1, by omega, by go_num, by first | exact rfl | exact trivial, fun j hj => by
                rcases (show j < 0 ∨ j = 0 by omega) with h | rfl
                · exact HN.out j h
                · exact fun h => hb0 (by simpa using h.symm)⟩
              case measure => simp [intOf]
          · have ix := others_1 w
            by_cases hb1 : b = 36
            · have E : Hid (alphaCode b = 37) := Lib.hid (by rw [hb1]; decide +kernel)
              have hbi : (b : Int) = 36 := by omega
              go_wp2_with fail
              go_ret
              exact ⟨by rw [E.out]; rfl, Kept.refl _ _⟩
            · have hbi : ¬ (b : Int) = 36 := by omega
              go_wp2_with fail
              go_roundw
              case rel => exact ⟨2, by omega, by go_num, by first | exact rfl | exact trivial, fun j hj => by
                rcases (show j < 1 ∨ j = 1 by omega) with h | rfl
                · exact HN.out j h
                · exact fun h => hb1 (by simpa using h.symm)⟩
              case measure => simp [intOf]
          · have ix := others_2 w
            by_cases hb2 : b = 37
            · have E : Hid (alphaCode b = 38) := Lib.hid (by rw [hb2]; decide +kernel)
              have hbi : (b : Int) = 37 := by omega
              go_wp2_with fail
              go_ret
              exact ⟨by rw [E.out]; rfl, Kept.refl _ _⟩
            · have hbi : ¬ (b : Int) = 37 := by omega
              go_wp2_with fail
              go_roundw
              case rel => exact ⟨3, by omega, by go_num, by first | exact rfl | exact trivial, fun j hj => by
                rcases (show j < 2 ∨ j = 2 by omega) with h | rfl
                · exact HN.out j h
                · exact fun h => hb2 (by simpa using h.symm)⟩
              case measure => simp [intOf]
          · have ix := others_3 w
            by_cases hb3 : b = 42
            · have E : Hid (alphaCode b = 39) := Lib.hid (by rw [hb3]; decide +kernel)
              have hbi : (b : Int) = 42 := by omega
              go_wp2_with fail
              go_ret
              exact ⟨by rw [E.out]; rfl, Kept.refl _ _⟩
            · have hbi : ¬ (b : Int) = 42 := by omega
              go_wp2_with fail
              go_roundw
              case rel => exact ⟨4, by omega, by go_num, by first | exact rfl | exact trivial, fun j hj => by
                rcases (show j < 3 ∨ j = 3 by omega) with h | rfl
                · exact HN.out j h
                · exact fun h => hb3 (by simpa using h.symm)⟩
              case measure => simp [intOf]
          · have ix := others_4 w
            by_cases hb4 : b = 43
            · have E : Hid (alphaCode b = 40) := Lib.hid (by rw [hb4]; decide +kernel)
              have hbi : (b : Int) = 43 := by omega
              go_wp2_with fail
              go_ret
              exact ⟨by rw [E.out]; rfl, Kept.refl _ _⟩
            · have hbi : ¬ (b : Int) = 43 := by omega
              go_wp2_with fail
              go_roundw
              case rel => exact ⟨5, by omega, by go_num, by first | exact rfl | exact trivial, fun j hj => by
                rcases (show j < 4 ∨ j = 4 by omega) with h | rfl
                · exact HN.out j h
                · exact fun h => hb4 (by simpa using h.symm)⟩
              case measure => simp [intOf]
          · have ix := others_5 w
            by_cases hb5 : b = 45
            · have E : Hid (alphaCode b = 41) := Lib.hid (by rw [hb5]; decide +kernel)
              have hbi : (b : Int) = 45 := by omega
              go_wp2_with fail
              go_ret
              exact ⟨by rw [E.out]; rfl, Kept.refl _ _⟩
            · have hbi : ¬ (b : Int) = 45 := by omega
              go_wp2_with fail
              go_roundw
              case rel => exact ⟨6, by omega, by go_num, by first | exact rfl | exact trivial, fun j hj => by
                rcases (show j < 5 ∨ j = 5 by omega) with h | rfl
                · exact HN.out j h
                · exact fun h => hb5 (by simpa using h.symm)⟩
              case measure => simp [intOf]
          · have ix := others_6 w
            by_cases hb6 : b = 46
            · have E : Hid (alphaCode b = 42) := Lib.hid (by rw [hb6]; decide +kernel)
              have hbi : (b : Int) = 46 := by omega
              go_wp2_with fail
              go_ret
              exact ⟨by rw [E.out]; rfl, Kept.refl _ _⟩
            · have hbi : ¬ (b : Int) = 46 := by omega
              go_wp2_with fail
              go_roundw
              case rel => exact ⟨7, by omega, by go_num, by first | exact rfl | exact trivial, fun j hj => by
                rcases (show j < 6 ∨ j = 6 by omega) with h | rfl
                · exact HN.out j h
                · exact fun h => hb6 (by simpa using h.symm)⟩
              case measure => simp [intOf]
          · have ix := others_7 w
            by_cases hb7 : b = 47
            · have E : Hid (alphaCode b = 43) := Lib.hid (by rw [hb7]; decide +kernel)
              have hbi : (b : Int) = 47 := by omega
              go_wp2_with fail
              go_ret
              exact ⟨by rw [E.out]; rfl, Kept.refl _ _⟩
            · have hbi : ¬ (b : Int) = 47 := by omega
              go_wp2_with fail
              go_roundw
              case rel => exact ⟨8, by omega, by go_num, by first | exact rfl | exact trivial, fun j hj => by
                rcases (show j < 7 ∨ j = 7 by omega) with h | rfl
                · exact HN.out j h
                · exact fun h => hb7 (by simpa using h.symm)⟩
              case measure => simp [intOf]
          · have ix := others_8 w
            by_cases hb8 : b = 58
            · have E : Hid (alphaCode b = 44) := Lib.hid (by rw [hb8]; decide +kernel)
              have hbi : (b : Int) = 58 := by omega
              go_wp2_with fail
              go_ret
              exact ⟨by rw [E.out]; rfl, Kept.refl _ _⟩
            · have hbi : ¬ (b : Int) = 58 := by omega
              go_wp2_with fail
              go_roundw
              case rel => exact ⟨9, by omega, by go_num, by first | exact rfl | exact trivial, fun j hj => by
                rcases (show j < 8 ∨ j = 8 by omega) with h | rfl
                · exact HN.out j h
                · exact fun h => hb8 (by simpa using h.symm)⟩
              case measure => simp [intOf]
          · have E : Hid (alphaCode b = -1) := Lib.hid (by
              rw [e.out]
              have n0 := HN.out 0 (by omega)
              have n1 := HN.out 1 (by omega)
              have n2 := HN.out 2 (by omega)
              have n3 := HN.out 3 (by omega)
              have n4 := HN.out 4 (by omega)
              have n5 := HN.out 5 (by omega)
              have n6 := HN.out 6 (by omega)
              have n7 := HN.out 7 (by omega)
              have n8 := HN.out 8 (by omega)
              simp at n0 n1 n2 n3 n4 n5 n6 n7 n8
              simp [Ne.symm n0, Ne.symm n1, Ne.symm n2, Ne.symm n3, Ne.symm n4, Ne.symm n5, Ne.symm n6, Ne.symm n7, Ne.symm n8])
            go_wp2_with fail
            go_ret
            exact ⟨by rw [E.out]; rfl, Kept.refl _ _⟩
set_option maxRecDepth 100000 in
set_option maxHeartbeats 2000000 in
theorem qrAlphaByte_c (i : Nat) (hi : i < 45) (w : World) : Calls Tryz.prog 12 #[.int .i64 (i : Int)] w fun e w' => (∃ b : Nat, e = .returned (.int .u8 (b : Int)) ∧ 32 ≤ b ∧ b < 91) ∧ Kept [] w w' := by
  obtain ⟨c, hc1, hc2, hc3⟩ := alpha_has i hi
  have HC := Lib.hid hc3
  clear hc3
  go_enter Tryz.func12, Tryz.ntmps12
  go_wp2_with fail
  go_loopw [3] (fun s3 wr => ∃ b : Nat, 32 ≤ b ∧ b ≤ c ∧ s3 = .int .u8 (b : Int) ∧ Kept [] w wr) (fun s _ => (100 - intOf s).toNat)
  case atStart => exact ⟨32, by omega, hc2, rfl, Kept.refl _ _⟩
  case round =>
    obtain ⟨b, hb1, hb2, rfl, hk⟩ := hrel
    have i1 : (b : Int) ≤ 90 := by omega
    have i2 : (32 : Int) ≤ b := by omega
    by_cases he : alphaCode b = (i : Int)
    · go_wp2_with fail
      refine (qrAlpha_c b hb1 (by omega) wr).mono ?_
      rintro e w1 ⟨rfl, hk1⟩
      rw [he]
      go_wp2_with fail
      go_ret
      exact ⟨⟨b, rfl, hb1, by omega⟩, hk.trans0 hk1⟩
    · have hne : b ≠ c := fun h => he (by rw [h]; exact HC.out)
      go_wp2_with fail
      refine (qrAlpha_c b hb1 (by omega) wr).mono ?_
      rintro e w1 ⟨rfl, hk1⟩
      have HK := Lib.hid (hk.trans0 hk1)
      generalize alphaCode b = v at he
      go_wp2_with fail
      go_roundw
      case rel => exact ⟨b + 1, by omega, by omega, by go_num, HK.out⟩
      case measure => simp [intOf]; omega
end

section
def Plain (xs : List Nat) : Prop := ∀ x ∈ xs, 32 ≤ x ∧ x < 127
theorem Plain.snoc {xs : List Nat} (h : Plain xs) {u : Nat} (h1 : 32 ≤ u) (h2 : u < 127) : Plain (xs ++ [u]) := by
  intro x hx
  rcases List.mem_append.1 hx with h3 | h3
  · exact h x h3
  · simp at h3; subst h3; exact ⟨h1, h2⟩
theorem GR.at0 {w : World} {base : Nat} {e : TypeId} {v : Value} {xs : List Value} (h : GR w base e v xs) (hne : xs ≠ []) : ∃ g cap rest, v = .slice (some ⟨g, 0, none⟩) xs.length cap ∧ Blk w g (xs ++ rest) e := by
  obtain ⟨g, rest, h1, _, h3, _⟩ := h.open hne
  exact ⟨g, _, rest, h1, h3⟩
theorem GR.no {w : World} {base : Nat} {e : TypeId} {v : Value} (h : GR w base e v []) : ∃ a cap, v = .slice a 0 cap := by
  obtain ⟨_, ⟨rfl, _⟩ | ⟨g, cap, cur, rfl, _⟩⟩ := h
  · exact ⟨_, _, rfl⟩
  · exact ⟨_, _, rfl⟩
set_option maxRecDepth 100000 in
set_option maxHeartbeats 4000000 in
theorem qrAscii0_c (s : ByteArray) (hs : s.size ≤ 2147483647) (kd : Nat) (hkd : kd < 256) (hr : kd % 3 = 0) (w : World) :
    Calls Tryz.prog 4 #[.string s, .int .u8 (kd : Int), .int .i64 60] w fun e w' => (∃ t : ByteArray, e = .returned (.string t) ∧ 0 < t.size ∧ t.size ≤ 60 ∧ Plain (chars t)) ∧ Kept [] w w' := by
  have hsi : (s.size : Int) ≤ 2147483647 := by omega
  have hkdi : (kd : Int) < 256 := by omega
  have hri : (kd : Int) % 3 = 0 := by omega
  clear hr
  go_enter Tryz.func4, Tryz.ntmps4
  go_wp2_with fail
  go_loopw [7, 8] (fun s7 s8 wr => ∃ (i : Nat) (xs : List Nat) (v7 : Value), v7 = s7 ∧ i ≤ s.size ∧ i ≤ 60 ∧ s8 = .int .i64 (i : Int) ∧ Hid (GR wr w.heap.size 5 v7 (xs.map u8c)) ∧ xs.length = i ∧ Plain xs ∧ Kept [] w wr) (fun _ s8 _ => (60 - intOf s8).toNat)
  case atStart => exact ⟨0, [], _, rfl, by omega, by omega, rfl, Lib.hid (GR.nil _ _ _), rfl, by intro x hx; simp at hx, Kept.refl _ _⟩
  case round =>
    obtain ⟨i, xs, v7, rfl, hi, hi60, rfl, hg, hl, hp, hk⟩ := hrel
    have HL := Lib.hid hl
    have HZ := Lib.hid hk.size
    clear hl
    have i60 : (i : Int) ≤ 60 := by omega
    by_cases hc : i < s.size ∧ i < 60
    · have hlt := hc.1
      have hl6 := hc.2
      have hlti : (i : Int) < s.size := by omega
      have hl6i : (i : Int) < 60 := by omega
      have hc256 : s[i].toNat < 256 := UInt8.toNat_lt _
      have HP := Lib.hid hp
      clear hp hc
      have hg1 := hg
      have hk2 := Lib.hid hk
      have HZ1 := HZ
      clear hg hk
      have hkb : Kept [] wr (wr.alloc (.cells #[u8c (48 + s[i].toNat % 10)] 5)) := (Kept.refl _ _).alloc _
      have hA : Hid ((wr.alloc (.cells #[u8c (48 + s[i].toNat % 10)] 5)).cell? ⟨wr.heap.size, 0, none⟩ = some (u8c (48 + s[i].toNat % 10))) := Lib.hid ((Blk.new wr [u8c (48 + s[i].toNat % 10)] 5).at (i := 0) rfl)
      have hB : Hid (w.heap.size ≤ (wr.alloc (.cells #[u8c (48 + s[i].toNat % 10)] 5)).heap.size) := Lib.hid (by rw [World.size_alloc]; have := HZ1.out; omega)
      have hown : Hid (GR (wr.alloc (.cells #[u8c (48 + s[i].toNat % 10)] 5)) w.heap.size 5 v7 (xs.map u8c)) := Lib.hid (hg1.out.keeps0 hkb)
      have hlen : (xs.map u8c).length ≤ 100000 := by rw [List.length_map, HL.out]; omega
      have HKB := Lib.hid hkb
      clear hkb hg1
      have hu1 : 32 ≤ 48 + s[i].toNat % 10 := by omega
      have hu2 : 48 + s[i].toNat % 10 < 127 := by omega
      have HU1 := Lib.hid hu1
      have HU2 := Lib.hid hu2
      clear hu1 hu2
      go_wp2_with (at_builtin; refine app_one rfl _ _ 35 rfl 5 (.int .u8 0) 1 Tryz.underlying35 Ty.info5 rfl (by omega) w.heap.size v7 (u8c (48 + s[i].toNat % 10)) (xs.map u8c) rfl hown.out wr.heap.size rfl hA.out rfl hlen hB.out ?_; intro v' w7 hgr hk7)
      have hk8 := (hk2.out.trans0 HKB.out).trans hk7 (fun x hx hl => by have := hown.out.own x hx; omega)
      go_roundw
      case rel => exact ⟨i + 1, xs ++ [48 + s[i].toNat % 10], v', rfl, by omega, by omega, by go_num, Lib.hid (by rw [List.map_append]; exact hgr), by rw [List.length_append, HL.out]; rfl, HP.out.snoc HU1.out HU2.out, hk8⟩
      case measure => simp [intOf]; omega
    · by_cases h0 : i = 0
      · have hx0 : xs = [] := List.length_eq_zero_iff.1 (by rw [HL.out]; exact h0)
        subst hx0
        obtain ⟨a, cap, rfl⟩ := GR.no hg.out
        have hs0 : s.size = 0 := by omega
        subst h0
        have hsi0 : (s.size : Int) = 0 := by omega
        clear hsi hc
        go_wp2_with fail
        go_ret
        exact ⟨⟨_, rfl, by decide, by decide, by intro x hx; have h7 : chars ⟨#[55]⟩ = [55] := rfl; rw [h7] at hx; simp at hx; omega⟩, hk⟩
      · obtain ⟨g, cap, rest, rfl, hb⟩ := GR.at0 hg.out (by intro h; rw [List.map_eq_nil_iff] at h; rw [h] at HL; exact h0 HL.out.symm)
        have hcv := conv_text hb (fun x hx => by have := hp x hx; omega) cap
        have hfin : Hid (∃ t : ByteArray, textOf xs = t ∧ 0 < t.size ∧ t.size ≤ 60 ∧ Plain (chars t)) := Lib.hid ⟨_, rfl, by rw [textOf_size, HL.out]; omega, by rw [textOf_size, HL.out]; omega, by rw [chars_textOf _ (fun x hx => by have := hp x hx; omega)]; exact hp⟩
        rw [List.length_map]
        rw [HL.out] at hcv ⊢
        have hi0 : ¬ (i : Int) = 0 := by omega
        obtain ⟨t, ht, t1, t2, t3⟩ := hfin.out
        rw [ht] at hcv
        rcases (show s.size ≤ i ∨ (i < s.size ∧ 60 ≤ i) by omega) with h5 | h5
        · have h6 : (s.size : Int) ≤ i := by omega
          clear hc hb hg hfin ht
          go_wp2_with fail
          go_ret
          exact ⟨⟨t, rfl, t1, t2, t3⟩, hk⟩
        · have h6 : (60 : Int) ≤ i := by omega
          have h7 : (i : Int) < s.size := by omega
          clear hc hb hg hfin ht
          go_wp2_with fail
          go_ret
          exact ⟨⟨t, rfl, t1, t2, t3⟩, hk⟩
set_option maxRecDepth 100000 in
set_option maxHeartbeats 4000000 in
theorem qrAscii1_c (s : ByteArray) (hs : s.size ≤ 2147483647) (kd : Nat) (hkd : kd < 256) (hr : kd % 3 = 1) (w : World) :
    Calls Tryz.prog 4 #[.string s, .int .u8 (kd : Int), .int .i64 60] w fun e w' => (∃ t : ByteArray, e = .returned (.string t) ∧ 0 < t.size ∧ t.size ≤ 60 ∧ Plain (chars t)) ∧ Kept [] w w' := by
  have hsi : (s.size : Int) ≤ 2147483647 := by omega
  have hkdi : (kd : Int) < 256 := by omega
  have hri : (kd : Int) % 3 = 1 := by omega
  clear hr
  go_enter Tryz.func4, Tryz.ntmps4
  go_wp2_with fail
  go_loopw [7, 8] (fun s7 s8 wr => ∃ (i : Nat) (xs : List Nat) (v7 : Value), v7 = s7 ∧ i ≤ s.size ∧ i ≤ 60 ∧ s8 = .int .i64 (i : Int) ∧ Hid (GR wr w.heap.size 5 v7 (xs.map u8c)) ∧ xs.length = i ∧ Plain xs ∧ Kept [] w wr) (fun _ s8 _ => (60 - intOf s8).toNat)
  case atStart => exact ⟨0, [], _, rfl, by omega, by omega, rfl, Lib.hid (GR.nil _ _ _), rfl, by intro x hx; simp at hx, Kept.refl _ _⟩
  case round =>
    obtain ⟨i, xs, v7, rfl, hi, hi60, rfl, hg, hl, hp, hk⟩ := hrel
    have HL := Lib.hid hl
    have HZ := Lib.hid hk.size
    clear hl
    have i60 : (i : Int) ≤ 60 := by omega
    by_cases hc : i < s.size ∧ i < 60
    · have hlt := hc.1
      have hl6 := hc.2
      have hlti : (i : Int) < s.size := by omega
      have hl6i : (i : Int) < 60 := by omega
      have hc256 : s[i].toNat < 256 := UInt8.toNat_lt _
      have HP := Lib.hid hp
      clear hp hc
      have m45 : (s[i].toNat : Int) % 45 = ((s[i].toNat % 45 : Nat) : Int) := by omega
      obtain ⟨q, hq⟩ : ∃ q, s[i].toNat % 45 = q := ⟨_, rfl⟩
      rw [hq] at m45
      have hq45 : q < 45 := by omega
      clear hq
      go_wp2_with fail
      refine (qrAlphaByte_c q hq45 wr).mono ?_
      rintro e w1 ⟨⟨b, rfl, hb1, hb2⟩, hk1⟩
      have hg1 : Hid (GR w1 w.heap.size 5 v7 (xs.map u8c)) := Lib.hid (hg.out.keeps0 hk1)
      have hk2 := Lib.hid (hk.trans0 hk1)
      have HZ1 : Hid (w.heap.size ≤ w1.heap.size) := Lib.hid (hk.trans0 hk1).size
      clear hg hk hk1 HZ
      have hkb : Kept [] w1 (w1.alloc (.cells #[u8c (b)] 5)) := (Kept.refl _ _).alloc _
      have hA : Hid ((w1.alloc (.cells #[u8c (b)] 5)).cell? ⟨w1.heap.size, 0, none⟩ = some (u8c (b))) := Lib.hid ((Blk.new w1 [u8c (b)] 5).at (i := 0) rfl)
      have hB : Hid (w.heap.size ≤ (w1.alloc (.cells #[u8c (b)] 5)).heap.size) := Lib.hid (by rw [World.size_alloc]; have := HZ1.out; omega)
      have hown : Hid (GR (w1.alloc (.cells #[u8c (b)] 5)) w.heap.size 5 v7 (xs.map u8c)) := Lib.hid (hg1.out.keeps0 hkb)
      have hlen : (xs.map u8c).length ≤ 100000 := by rw [List.length_map, HL.out]; omega
      have HKB := Lib.hid hkb
      clear hkb hg1
      have hu1 : 32 ≤ b := by omega
      have hu2 : b < 127 := by omega
      have HU1 := Lib.hid hu1
      have HU2 := Lib.hid hu2
      clear hu1 hu2
      go_wp2_with (at_builtin; refine app_one rfl _ _ 35 rfl 5 (.int .u8 0) 1 Tryz.underlying35 Ty.info5 rfl (by omega) w.heap.size v7 (u8c (b)) (xs.map u8c) rfl hown.out w1.heap.size rfl hA.out rfl hlen hB.out ?_; intro v' w7 hgr hk7)
      have hk8 := (hk2.out.trans0 HKB.out).trans hk7 (fun x hx hl => by have := hown.out.own x hx; omega)
      go_roundw
      case rel => exact ⟨i + 1, xs ++ [b], v', rfl, by omega, by omega, by go_num, Lib.hid (by rw [List.map_append]; exact hgr), by rw [List.length_append, HL.out]; rfl, HP.out.snoc HU1.out HU2.out, hk8⟩
      case measure => simp [intOf]; omega
    · by_cases h0 : i = 0
      · have hx0 : xs = [] := List.length_eq_zero_iff.1 (by rw [HL.out]; exact h0)
        subst hx0
        obtain ⟨a, cap, rfl⟩ := GR.no hg.out
        have hs0 : s.size = 0 := by omega
        subst h0
        have hsi0 : (s.size : Int) = 0 := by omega
        clear hsi hc
        go_wp2_with fail
        go_ret
        exact ⟨⟨_, rfl, by decide, by decide, by intro x hx; have h7 : chars ⟨#[55]⟩ = [55] := rfl; rw [h7] at hx; simp at hx; omega⟩, hk⟩
      · obtain ⟨g, cap, rest, rfl, hb⟩ := GR.at0 hg.out (by intro h; rw [List.map_eq_nil_iff] at h; rw [h] at HL; exact h0 HL.out.symm)
        have hcv := conv_text hb (fun x hx => by have := hp x hx; omega) cap
        have hfin : Hid (∃ t : ByteArray, textOf xs = t ∧ 0 < t.size ∧ t.size ≤ 60 ∧ Plain (chars t)) := Lib.hid ⟨_, rfl, by rw [textOf_size, HL.out]; omega, by rw [textOf_size, HL.out]; omega, by rw [chars_textOf _ (fun x hx => by have := hp x hx; omega)]; exact hp⟩
        rw [List.length_map]
        rw [HL.out] at hcv ⊢
        have hi0 : ¬ (i : Int) = 0 := by omega
        obtain ⟨t, ht, t1, t2, t3⟩ := hfin.out
        rw [ht] at hcv
        rcases (show s.size ≤ i ∨ (i < s.size ∧ 60 ≤ i) by omega) with h5 | h5
        · have h6 : (s.size : Int) ≤ i := by omega
          clear hc hb hg hfin ht
          go_wp2_with fail
          go_ret
          exact ⟨⟨t, rfl, t1, t2, t3⟩, hk⟩
        · have h6 : (60 : Int) ≤ i := by omega
          have h7 : (i : Int) < s.size := by omega
          clear hc hb hg hfin ht
          go_wp2_with fail
          go_ret
          exact ⟨⟨t, rfl, t1, t2, t3⟩, hk⟩
set_option maxRecDepth 100000 in
set_option maxHeartbeats 4000000 in
theorem qrAscii2_c (s : ByteArray) (hs : s.size ≤ 2147483647) (kd : Nat) (hkd : kd < 256) (hr : kd % 3 = 2) (w : World) :
    Calls Tryz.prog 4 #[.string s, .int .u8 (kd : Int), .int .i64 60] w fun e w' => (∃ t : ByteArray, e = .returned (.string t) ∧ 0 < t.size ∧ t.size ≤ 60 ∧ Plain (chars t)) ∧ Kept [] w w' := by
  have hsi : (s.size : Int) ≤ 2147483647 := by omega
  have hkdi : (kd : Int) < 256 := by omega
  have hri : (kd : Int) % 3 = 2 := by omega
  clear hr
  go_enter Tryz.func4, Tryz.ntmps4
  go_wp2_with fail
  go_loopw [7, 8] (fun s7 s8 wr => ∃ (i : Nat) (xs : List Nat) (v7 : Value), v7 = s7 ∧ i ≤ s.size ∧ i ≤ 60 ∧ s8 = .int .i64 (i : Int) ∧ Hid (GR wr w.heap.size 5 v7 (xs.map u8c)) ∧ xs.length = i ∧ Plain xs ∧ Kept [] w wr) (fun _ s8 _ => (60 - intOf s8).toNat)
  case atStart => exact ⟨0, [], _, rfl, by omega, by omega, rfl, Lib.hid (GR.nil _ _ _), rfl, by intro x hx; simp at hx, Kept.refl _ _⟩
  case round =>
    obtain ⟨i, xs, v7, rfl, hi, hi60, rfl, hg, hl, hp, hk⟩ := hrel
    have HL := Lib.hid hl
    have HZ := Lib.hid hk.size
    clear hl
    have i60 : (i : Int) ≤ 60 := by omega
    by_cases hc : i < s.size ∧ i < 60
    · have hlt := hc.1
      have hl6 := hc.2
      have hlti : (i : Int) < s.size := by omega
      have hl6i : (i : Int) < 60 := by omega
      have hc256 : s[i].toNat < 256 := UInt8.toNat_lt _
      have HP := Lib.hid hp
      clear hp hc
      have hg1 := hg
      have hk2 := Lib.hid hk
      have HZ1 := HZ
      clear hg hk
      have hkb : Kept [] wr (wr.alloc (.cells #[u8c (32 + s[i].toNat % 95)] 5)) := (Kept.refl _ _).alloc _
      have hA : Hid ((wr.alloc (.cells #[u8c (32 + s[i].toNat % 95)] 5)).cell? ⟨wr.heap.size, 0, none⟩ = some (u8c (32 + s[i].toNat % 95))) := Lib.hid ((Blk.new wr [u8c (32 + s[i].toNat % 95)] 5).at (i := 0) rfl)
      have hB : Hid (w.heap.size ≤ (wr.alloc (.cells #[u8c (32 + s[i].toNat % 95)] 5)).heap.size) := Lib.hid (by rw [World.size_alloc]; have := HZ1.out; omega)
      have hown : Hid (GR (wr.alloc (.cells #[u8c (32 + s[i].toNat % 95)] 5)) w.heap.size 5 v7 (xs.map u8c)) := Lib.hid (hg1.out.keeps0 hkb)
      have hlen : (xs.map u8c).length ≤ 100000 := by rw [List.length_map, HL.out]; omega
      have HKB := Lib.hid hkb
      clear hkb hg1
      have hu1 : 32 ≤ 32 + s[i].toNat % 95 := by omega
      have hu2 : 32 + s[i].toNat % 95 < 127 := by omega
      have HU1 := Lib.hid hu1
      have HU2 := Lib.hid hu2
      clear hu1 hu2
      go_wp2_with (at_builtin; refine app_one rfl _ _ 35 rfl 5 (.int .u8 0) 1 Tryz.underlying35 Ty.info5 rfl (by omega) w.heap.size v7 (u8c (32 + s[i].toNat % 95)) (xs.map u8c) rfl hown.out wr.heap.size rfl hA.out rfl hlen hB.out ?_; intro v' w7 hgr hk7)
      have hk8 := (hk2.out.trans0 HKB.out).trans hk7 (fun x hx hl => by have := hown.out.own x hx; omega)
      go_roundw
      case rel => exact ⟨i + 1, xs ++ [32 + s[i].toNat % 95], v', rfl, by omega, by omega, by go_num, Lib.hid (by rw [List.map_append]; exact hgr), by rw [List.length_append, HL.out]; rfl, HP.out.snoc HU1.out HU2.out, hk8⟩
      case measure => simp [intOf]; omega
    · by_cases h0 : i = 0
      · have hx0 : xs = [] := List.length_eq_zero_iff.1 (by rw [HL.out]; exact h0)
        subst hx0
        obtain ⟨a, cap, rfl⟩ := GR.no hg.out
        have hs0 : s.size = 0 := by omega
        subst h0
        have hsi0 : (s.size : Int) = 0 := by omega
        clear hsi hc
        go_wp2_with fail
        go_ret
        exact ⟨⟨_, rfl, by decide, by decide, by intro x hx; have h7 : chars ⟨#[55]⟩ = [55] := rfl; rw [h7] at hx; simp at hx; omega⟩, hk⟩
      · obtain ⟨g, cap, rest, rfl, hb⟩ := GR.at0 hg.out (by intro h; rw [List.map_eq_nil_iff] at h; rw [h] at HL; exact h0 HL.out.symm)
        have hcv := conv_text hb (fun x hx => by have := hp x hx; omega) cap
        have hfin : Hid (∃ t : ByteArray, textOf xs = t ∧ 0 < t.size ∧ t.size ≤ 60 ∧ Plain (chars t)) := Lib.hid ⟨_, rfl, by rw [textOf_size, HL.out]; omega, by rw [textOf_size, HL.out]; omega, by rw [chars_textOf _ (fun x hx => by have := hp x hx; omega)]; exact hp⟩
        rw [List.length_map]
        rw [HL.out] at hcv ⊢
        have hi0 : ¬ (i : Int) = 0 := by omega
        obtain ⟨t, ht, t1, t2, t3⟩ := hfin.out
        rw [ht] at hcv
        rcases (show s.size ≤ i ∨ (i < s.size ∧ 60 ≤ i) by omega) with h5 | h5
        · have h6 : (s.size : Int) ≤ i := by omega
          clear hc hb hg hfin ht
          go_wp2_with fail
          go_ret
          exact ⟨⟨t, rfl, t1, t2, t3⟩, hk⟩
        · have h6 : (60 : Int) ≤ i := by omega
          have h7 : (i : Int) < s.size := by omega
          clear hc hb hg hfin ht
          go_wp2_with fail
          go_ret
          exact ⟨⟨t, rfl, t1, t2, t3⟩, hk⟩
theorem qrAscii_c (s : ByteArray) (hs : s.size ≤ 2147483647) (kd : Nat) (hkd : kd < 256) (w : World) :
    Calls Tryz.prog 4 #[.string s, .int .u8 (kd : Int), .int .i64 60] w fun e w' => (∃ t : ByteArray, e = .returned (.string t) ∧ 0 < t.size ∧ t.size ≤ 60 ∧ Plain (chars t)) ∧ Kept [] w w' := by
  rcases (show kd % 3 = 0 ∨ kd % 3 = 1 ∨ kd % 3 = 2 by omega) with hr | hr | hr
  · exact qrAscii0_c s hs kd hkd hr w
  · exact qrAscii1_c s hs kd hkd hr w
  · exact qrAscii2_c s hs kd hkd hr w
end
end Go.Proofs.YtplpafbkalkchaaGreatDoor
