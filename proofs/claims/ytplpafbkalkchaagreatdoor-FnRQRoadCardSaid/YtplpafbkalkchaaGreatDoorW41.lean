/- Walks: bits are read out of a source, part a. Walks: bits are read out of a source, part b. -/
import Derived.Test.YtplpafbkalkchaaGreatDoorW37
namespace Go.Proofs.YtplpafbkalkchaaGreatDoor
open Go Go.RowKit Go.Proofs
set_option linter.all false

section
set_option maxRecDepth 100000
set_option maxHeartbeats 1000000
theorem read_0_4 {w : World} {S D : Nat} {xs : List Nat} {q : Nat} (h : BS w S D xs (8 * q + 0)) (hfit : 8 * q + 0 + 4 ≤ 8 * xs.length) : ReadOk w S D xs (8 * q + 0) 4 := by
  obtain ⟨g0, g1, g2, f1, f2⟩ := h.heads (by decide)
  have hSD := h.ne
  have hDS := h.ne.symm
  have hfew := h.few
  obtain ⟨b0, hx0, hb0, d0, e0⟩ := h.byte (q) (by omega)
  obtain ⟨a0, ha0⟩ : ∃ a, b0 / 2 ^ 4 % 2 ^ 4 = a := ⟨_, rfl⟩
  have la0 : a0 < 16 := part_lt ha0 rfl
  have A0 := and_part 240 16 (by decide) rfl rfl hb0 ha0
  have S0 : (a0 : Int) * 16 / 16 = a0 := by omega
  have u0 : (a0 : Int) < 16 := by omega
  have R0 := rd_part (p := 8 * q + 0) (o := 0) (by omega) hx0 (by decide) ha0
  have O0 := or_first a0 (by omega)
  have HE := Lib.hid R0
  have HS := Lib.hid h
  obtain ⟨av, hav⟩ : ∃ av, 8 * xs.length - (8 * q + 0) = av := ⟨_, rfl⟩
  have HA := h.avail hav
  have hk : (4 : Int) ≤ av := by omega
  obtain ⟨n, hn⟩ : ∃ n, xs.length = n := ⟨_, rfl⟩
  rw [hn] at g0 hfit hfew
  have HN := Lib.hid hn
  have HF := Lib.hid hfit
  have qn : (q : Int) ≤ 300 := by omega
  have q0 : (q : Int) < n := by omega
  clear h hav hn hfit hx0 ha0 R0
  have hdr := drewN_set
  have hss1 := set_twice' S 1
  have hss2 := set_twice' S 2
  go_enter Tryz.func227, Tryz.ntmps227
  go_wp2_with fail
  refine HA.out.mono ?_
  rintro e wx ⟨rfl, n1, rfl⟩
  go_wp2_with fail
  refine wp_loop_rounds 1 ?_
  rw [rounds_succ]
  go_wp2_with fail
  go_quiet (fail)
  go_wp2_with fail
  go_ret2
  exact ⟨by rw [HE.out]; rfl, HS.out.next ((HS.out.st.set 2 _).drewN _) (by rw [show (8 * q + 0 + 4) / 8 = q + 0 by omega, show (8 * q + 0 + 4) % 8 = 4 by omega]; simp [Int.add_assoc] <;> omega) ((HS.out.ar.set_other hSD _).drewN _) (by rw [HN.out]; exact HF.out), (((Kept.refl [S] w).setCell (p := ⟨S, 2, none⟩) (.inl (by simp)) _).drewN _)⟩
theorem read_0_6 {w : World} {S D : Nat} {xs : List Nat} {q : Nat} (h : BS w S D xs (8 * q + 0)) (hfit : 8 * q + 0 + 6 ≤ 8 * xs.length) : ReadOk w S D xs (8 * q + 0) 6 := by
  obtain ⟨g0, g1, g2, f1, f2⟩ := h.heads (by decide)
  have hSD := h.ne
  have hDS := h.ne.symm
  have hfew := h.few
  obtain ⟨b0, hx0, hb0, d0, e0⟩ := h.byte (q) (by omega)
  obtain ⟨a0, ha0⟩ : ∃ a, b0 / 2 ^ 2 % 2 ^ 6 = a := ⟨_, rfl⟩
  have la0 : a0 < 64 := part_lt ha0 rfl
  have A0 := and_part 252 4 (by decide) rfl rfl hb0 ha0
  have S0 : (a0 : Int) * 4 / 4 = a0 := by omega
  have u0 : (a0 : Int) < 64 := by omega
  have R0 := rd_part (p := 8 * q + 0) (o := 0) (by omega) hx0 (by decide) ha0
  have O0 := or_first a0 (by omega)
  have HE := Lib.hid R0
  have HS := Lib.hid h
  obtain ⟨av, hav⟩ : ∃ av, 8 * xs.length - (8 * q + 0) = av := ⟨_, rfl⟩
  have HA := h.avail hav
  have hk : (6 : Int) ≤ av := by omega
  obtain ⟨n, hn⟩ : ∃ n, xs.length = n := ⟨_, rfl⟩
  rw [hn] at g0 hfit hfew
  have HN := Lib.hid hn
  have HF := Lib.hid hfit
  have qn : (q : Int) ≤ 300 := by omega
  have q0 : (q : Int) < n := by omega
  clear h hav hn hfit hx0 ha0 R0
  have hdr := drewN_set
  have hss1 := set_twice' S 1
  have hss2 := set_twice' S 2
  go_enter Tryz.func227, Tryz.ntmps227
  go_wp2_with fail
  refine HA.out.mono ?_
  rintro e wx ⟨rfl, n1, rfl⟩
  go_wp2_with fail
  refine wp_loop_rounds 1 ?_
  rw [rounds_succ]
  go_wp2_with fail
  go_quiet (fail)
  go_wp2_with fail
  go_ret2
  exact ⟨by rw [HE.out]; rfl, HS.out.next ((HS.out.st.set 2 _).drewN _) (by rw [show (8 * q + 0 + 6) / 8 = q + 0 by omega, show (8 * q + 0 + 6) % 8 = 6 by omega]; simp [Int.add_assoc] <;> omega) ((HS.out.ar.set_other hSD _).drewN _) (by rw [HN.out]; exact HF.out), (((Kept.refl [S] w).setCell (p := ⟨S, 2, none⟩) (.inl (by simp)) _).drewN _)⟩
theorem read_0_7 {w : World} {S D : Nat} {xs : List Nat} {q : Nat} (h : BS w S D xs (8 * q + 0)) (hfit : 8 * q + 0 + 7 ≤ 8 * xs.length) : ReadOk w S D xs (8 * q + 0) 7 := by
  obtain ⟨g0, g1, g2, f1, f2⟩ := h.heads (by decide)
  have hSD := h.ne
  have hDS := h.ne.symm
  have hfew := h.few
  obtain ⟨b0, hx0, hb0, d0, e0⟩ := h.byte (q) (by omega)
  obtain ⟨a0, ha0⟩ : ∃ a, b0 / 2 ^ 1 % 2 ^ 7 = a := ⟨_, rfl⟩
  have la0 : a0 < 128 := part_lt ha0 rfl
  have A0 := and_part 254 2 (by decide) rfl rfl hb0 ha0
  have S0 : (a0 : Int) * 2 / 2 = a0 := by omega
  have u0 : (a0 : Int) < 128 := by omega
  have R0 := rd_part (p := 8 * q + 0) (o := 0) (by omega) hx0 (by decide) ha0
  have O0 := or_first a0 (by omega)
  have HE := Lib.hid R0
  have HS := Lib.hid h
  obtain ⟨av, hav⟩ : ∃ av, 8 * xs.length - (8 * q + 0) = av := ⟨_, rfl⟩
  have HA := h.avail hav
  have hk : (7 : Int) ≤ av := by omega
  obtain ⟨n, hn⟩ : ∃ n, xs.length = n := ⟨_, rfl⟩
  rw [hn] at g0 hfit hfew
  have HN := Lib.hid hn
  have HF := Lib.hid hfit
  have qn : (q : Int) ≤ 300 := by omega
  have q0 : (q : Int) < n := by omega
  clear h hav hn hfit hx0 ha0 R0
  have hdr := drewN_set
  have hss1 := set_twice' S 1
  have hss2 := set_twice' S 2
  go_enter Tryz.func227, Tryz.ntmps227
  go_wp2_with fail
  refine HA.out.mono ?_
  rintro e wx ⟨rfl, n1, rfl⟩
  go_wp2_with fail
  refine wp_loop_rounds 1 ?_
  rw [rounds_succ]
  go_wp2_with fail
  go_quiet (fail)
  go_wp2_with fail
  go_ret2
  exact ⟨by rw [HE.out]; rfl, HS.out.next ((HS.out.st.set 2 _).drewN _) (by rw [show (8 * q + 0 + 7) / 8 = q + 0 by omega, show (8 * q + 0 + 7) % 8 = 7 by omega]; simp [Int.add_assoc] <;> omega) ((HS.out.ar.set_other hSD _).drewN _) (by rw [HN.out]; exact HF.out), (((Kept.refl [S] w).setCell (p := ⟨S, 2, none⟩) (.inl (by simp)) _).drewN _)⟩
theorem read_0_8 {w : World} {S D : Nat} {xs : List Nat} {q : Nat} (h : BS w S D xs (8 * q + 0)) (hfit : 8 * q + 0 + 8 ≤ 8 * xs.length) : ReadOk w S D xs (8 * q + 0) 8 := by
  obtain ⟨g0, g1, g2, f1, f2⟩ := h.heads (by decide)
  have hSD := h.ne
  have hDS := h.ne.symm
  have hfew := h.few
  obtain ⟨b0, hx0, hb0, d0, e0⟩ := h.byte (q) (by omega)
  obtain ⟨a0, ha0⟩ : ∃ a, b0 / 2 ^ 0 % 2 ^ 8 = a := ⟨_, rfl⟩
  have la0 : a0 < 256 := part_lt ha0 rfl
  have A0 := and_part0 255 (by decide) rfl hb0 ha0
  have u0 : (a0 : Int) < 256 := by omega
  have R0 := rd_part (p := 8 * q + 0) (o := 0) (by omega) hx0 (by decide) ha0
  have O0 := or_first a0 (by omega)
  have HE := Lib.hid R0
  have HS := Lib.hid h
  obtain ⟨av, hav⟩ : ∃ av, 8 * xs.length - (8 * q + 0) = av := ⟨_, rfl⟩
  have HA := h.avail hav
  have hk : (8 : Int) ≤ av := by omega
  obtain ⟨n, hn⟩ : ∃ n, xs.length = n := ⟨_, rfl⟩
  rw [hn] at g0 hfit hfew
  have HN := Lib.hid hn
  have HF := Lib.hid hfit
  have qn : (q : Int) ≤ 300 := by omega
  have q0 : (q : Int) < n := by omega
  clear h hav hn hfit hx0 ha0 R0
  have hdr := drewN_set
  have hss1 := set_twice' S 1
  have hss2 := set_twice' S 2
  go_enter Tryz.func227, Tryz.ntmps227
  go_wp2_with fail
  refine HA.out.mono ?_
  rintro e wx ⟨rfl, n1, rfl⟩
  go_wp2_with fail
  refine wp_loop_rounds 2 ?_
  rw [rounds_succ]
  go_wp2_with fail
  go_quiet (fail)
  go_wp2_with fail
  rw [rounds_succ]
  go_wp2_with fail
  go_ret2
  exact ⟨by rw [HE.out]; rfl, HS.out.next ((HS.out.st.set 1 _).drewN _) (by rw [show (8 * q + 0 + 8) / 8 = q + 1 by omega, show (8 * q + 0 + 8) % 8 = 0 by omega]; simp [Int.add_assoc] <;> omega) ((HS.out.ar.set_other hSD _).drewN _) (by rw [HN.out]; exact HF.out), (((Kept.refl [S] w).setCell (p := ⟨S, 1, none⟩) (.inl (by simp)) _).drewN _)⟩
theorem read_0_9 {w : World} {S D : Nat} {xs : List Nat} {q : Nat} (h : BS w S D xs (8 * q + 0)) (hfit : 8 * q + 0 + 9 ≤ 8 * xs.length) : ReadOk w S D xs (8 * q + 0) 9 := by
  obtain ⟨g0, g1, g2, f1, f2⟩ := h.heads (by decide)
  have hSD := h.ne
  have hDS := h.ne.symm
  have hfew := h.few
  obtain ⟨b0, hx0, hb0, d0, e0⟩ := h.byte (q) (by omega)
  obtain ⟨b1, hx1, hb1, d1, e1⟩ := h.byte (q + 1) (by omega)
  obtain ⟨a0, ha0⟩ : ∃ a, b0 / 2 ^ 0 % 2 ^ 8 = a := ⟨_, rfl⟩
  have la0 : a0 < 256 := part_lt ha0 rfl
  have A0 := and_part0 255 (by decide) rfl hb0 ha0
  have u0 : (a0 : Int) < 256 := by omega
  have R0 := rd_part (p := 8 * q + 0) (o := 0) (by omega) hx0 (by decide) ha0
  have O0 := or_first a0 (by omega)
  obtain ⟨a1, ha1⟩ : ∃ a, b1 / 2 ^ 7 % 2 ^ 1 = a := ⟨_, rfl⟩
  have la1 : a1 < 2 := part_lt ha1 rfl
  have A1 := and_part 128 128 (by decide) rfl rfl hb1 ha1
  have S1 : (a1 : Int) * 128 / 128 = a1 := by omega
  have u1 : (a1 : Int) < 2 := by omega
  have R1 := rd_part (p := 8 * q + 0 + 8) (o := 0) (by omega) hx1 (by decide) ha1
  obtain ⟨c1, hc1⟩ : ∃ c, a0 * 2 + a1 = c := ⟨_, rfl⟩
  have O1 := or_more 1 2 rfl hc1 rfl la1 (by decide) (by omega)
  have v1 : (c1 : Int) < 512 := by omega
  have E1 : rd (byteBits xs) (8 * q + 0) 9 = c1 := rd_more (a := 8) (b := 1) (by omega) R0 R1 hc1
  have HE := Lib.hid E1
  have HS := Lib.hid h
  obtain ⟨av, hav⟩ : ∃ av, 8 * xs.length - (8 * q + 0) = av := ⟨_, rfl⟩
  have HA := h.avail hav
  have hk : (9 : Int) ≤ av := by omega
  obtain ⟨n, hn⟩ : ∃ n, xs.length = n := ⟨_, rfl⟩
  rw [hn] at g0 hfit hfew
  have HN := Lib.hid hn
  have HF := Lib.hid hfit
  have qn : (q : Int) ≤ 300 := by omega
  have q0 : (q : Int) < n := by omega
  have q1 : (q : Int) + 1 < n := by omega
  clear h hav hn hfit hx0 hx1 ha0 ha1 R0 R1 E1 hc1
  have hdr := drewN_set
  have hss1 := set_twice' S 1
  have hss2 := set_twice' S 2
  go_enter Tryz.func227, Tryz.ntmps227
  go_wp2_with fail
  refine HA.out.mono ?_
  rintro e wx ⟨rfl, n1, rfl⟩
  go_wp2_with fail
  refine wp_loop_rounds 2 ?_
  rw [rounds_succ]
  go_wp2_with fail
  go_quiet (fail)
  go_wp2_with fail
  rw [rounds_succ]
  go_wp2_with fail
  go_quiet (fail)
  go_wp2_with fail
  go_ret2
  exact ⟨by rw [HE.out]; rfl, HS.out.next (((HS.out.st.set 1 _).set 2 _).drewN _) (by rw [show (8 * q + 0 + 9) / 8 = q + 1 by omega, show (8 * q + 0 + 9) % 8 = 1 by omega]; simp [Int.add_assoc] <;> omega) (((HS.out.ar.set_other hSD _).set_other hSD _).drewN _) (by rw [HN.out]; exact HF.out), ((((Kept.refl [S] w).setCell (p := ⟨S, 1, none⟩) (.inl (by simp)) _).setCell (p := ⟨S, 2, none⟩) (.inl (by simp)) _).drewN _)⟩
theorem read_0_10 {w : World} {S D : Nat} {xs : List Nat} {q : Nat} (h : BS w S D xs (8 * q + 0)) (hfit : 8 * q + 0 + 10 ≤ 8 * xs.length) : ReadOk w S D xs (8 * q + 0) 10 := by
  obtain ⟨g0, g1, g2, f1, f2⟩ := h.heads (by decide)
  have hSD := h.ne
  have hDS := h.ne.symm
  have hfew := h.few
  obtain ⟨b0, hx0, hb0, d0, e0⟩ := h.byte (q) (by omega)
  obtain ⟨b1, hx1, hb1, d1, e1⟩ := h.byte (q + 1) (by omega)
  obtain ⟨a0, ha0⟩ : ∃ a, b0 / 2 ^ 0 % 2 ^ 8 = a := ⟨_, rfl⟩
  have la0 : a0 < 256 := part_lt ha0 rfl
  have A0 := and_part0 255 (by decide) rfl hb0 ha0
  have u0 : (a0 : Int) < 256 := by omega
  have R0 := rd_part (p := 8 * q + 0) (o := 0) (by omega) hx0 (by decide) ha0
  have O0 := or_first a0 (by omega)
  obtain ⟨a1, ha1⟩ : ∃ a, b1 / 2 ^ 6 % 2 ^ 2 = a := ⟨_, rfl⟩
  have la1 : a1 < 4 := part_lt ha1 rfl
  have A1 := and_part 192 64 (by decide) rfl rfl hb1 ha1
  have S1 : (a1 : Int) * 64 / 64 = a1 := by omega
  have u1 : (a1 : Int) < 4 := by omega
  have R1 := rd_part (p := 8 * q + 0 + 8) (o := 0) (by omega) hx1 (by decide) ha1
  obtain ⟨c1, hc1⟩ : ∃ c, a0 * 4 + a1 = c := ⟨_, rfl⟩
  have O1 := or_more 2 4 rfl hc1 rfl la1 (by decide) (by omega)
  have v1 : (c1 : Int) < 1024 := by omega
  have E1 : rd (byteBits xs) (8 * q + 0) 10 = c1 := rd_more (a := 8) (b := 2) (by omega) R0 R1 hc1
  have HE := Lib.hid E1
  have HS := Lib.hid h
  obtain ⟨av, hav⟩ : ∃ av, 8 * xs.length - (8 * q + 0) = av := ⟨_, rfl⟩
  have HA := h.avail hav
  have hk : (10 : Int) ≤ av := by omega
  obtain ⟨n, hn⟩ : ∃ n, xs.length = n := ⟨_, rfl⟩
  rw [hn] at g0 hfit hfew
  have HN := Lib.hid hn
  have HF := Lib.hid hfit
  have qn : (q : Int) ≤ 300 := by omega
  have q0 : (q : Int) < n := by omega
  have q1 : (q : Int) + 1 < n := by omega
  clear h hav hn hfit hx0 hx1 ha0 ha1 R0 R1 E1 hc1
  have hdr := drewN_set
  have hss1 := set_twice' S 1
  have hss2 := set_twice' S 2
  go_enter Tryz.func227, Tryz.ntmps227
  go_wp2_with fail
  refine HA.out.mono ?_
  rintro e wx ⟨rfl, n1, rfl⟩
  go_wp2_with fail
  refine wp_loop_rounds 2 ?_
  rw [rounds_succ]
  go_wp2_with fail
  go_quiet (fail)
  go_wp2_with fail
  rw [rounds_succ]
  go_wp2_with fail
  go_quiet (fail)
  go_wp2_with fail
  go_ret2
  exact ⟨by rw [HE.out]; rfl, HS.out.next (((HS.out.st.set 1 _).set 2 _).drewN _) (by rw [show (8 * q + 0 + 10) / 8 = q + 1 by omega, show (8 * q + 0 + 10) % 8 = 2 by omega]; simp [Int.add_assoc] <;> omega) (((HS.out.ar.set_other hSD _).set_other hSD _).drewN _) (by rw [HN.out]; exact HF.out), ((((Kept.refl [S] w).setCell (p := ⟨S, 1, none⟩) (.inl (by simp)) _).setCell (p := ⟨S, 2, none⟩) (.inl (by simp)) _).drewN _)⟩
theorem read_0_11 {w : World} {S D : Nat} {xs : List Nat} {q : Nat} (h : BS w S D xs (8 * q + 0)) (hfit : 8 * q + 0 + 11 ≤ 8 * xs.length) : ReadOk w S D xs (8 * q + 0) 11 := by
  obtain ⟨g0, g1, g2, f1, f2⟩ := h.heads (by decide)
  have hSD := h.ne
  have hDS := h.ne.symm
  have hfew := h.few
  obtain ⟨b0, hx0, hb0, d0, e0⟩ := h.byte (q) (by omega)
  obtain ⟨b1, hx1, hb1, d1, e1⟩ := h.byte (q + 1) (by omega)
  obtain ⟨a0, ha0⟩ : ∃ a, b0 / 2 ^ 0 % 2 ^ 8 = a := ⟨_, rfl⟩
  have la0 : a0 < 256 := part_lt ha0 rfl
  have A0 := and_part0 255 (by decide) rfl hb0 ha0
  have u0 : (a0 : Int) < 256 := by omega
  have R0 := rd_part (p := 8 * q + 0) (o := 0) (by omega) hx0 (by decide) ha0
  have O0 := or_first a0 (by omega)
  obtain ⟨a1, ha1⟩ : ∃ a, b1 / 2 ^ 5 % 2 ^ 3 = a := ⟨_, rfl⟩
  have la1 : a1 < 8 := part_lt ha1 rfl
  have A1 := and_part 224 32 (by decide) rfl rfl hb1 ha1
  have S1 : (a1 : Int) * 32 / 32 = a1 := by omega
  have u1 : (a1 : Int) < 8 := by omega
  have R1 := rd_part (p := 8 * q + 0 + 8) (o := 0) (by omega) hx1 (by decide) ha1
  obtain ⟨c1, hc1⟩ : ∃ c, a0 * 8 + a1 = c := ⟨_, rfl⟩
  have O1 := or_more 3 8 rfl hc1 rfl la1 (by decide) (by omega)
  have v1 : (c1 : Int) < 2048 := by omega
  have E1 : rd (byteBits xs) (8 * q + 0) 11 = c1 := rd_more (a := 8) (b := 3) (by omega) R0 R1 hc1
  have HE := Lib.hid E1
  have HS := Lib.hid h
  obtain ⟨av, hav⟩ : ∃ av, 8 * xs.length - (8 * q + 0) = av := ⟨_, rfl⟩
  have HA := h.avail hav
  have hk : (11 : Int) ≤ av := by omega
  obtain ⟨n, hn⟩ : ∃ n, xs.length = n := ⟨_, rfl⟩
  rw [hn] at g0 hfit hfew
  have HN := Lib.hid hn
  have HF := Lib.hid hfit
  have qn : (q : Int) ≤ 300 := by omega
  have q0 : (q : Int) < n := by omega
  have q1 : (q : Int) + 1 < n := by omega
  clear h hav hn hfit hx0 hx1 ha0 ha1 R0 R1 E1 hc1
  have hdr := drewN_set
  have hss1 := set_twice' S 1
  have hss2 := set_twice' S 2
  go_enter Tryz.func227, Tryz.ntmps227
  go_wp2_with fail
  refine HA.out.mono ?_
  rintro e wx ⟨rfl, n1, rfl⟩
  go_wp2_with fail
  refine wp_loop_rounds 2 ?_
  rw [rounds_succ]
  go_wp2_with fail
  go_quiet (fail)
  go_wp2_with fail
  rw [rounds_succ]
  go_wp2_with fail
  go_quiet (fail)
  go_wp2_with fail
  go_ret2
  exact ⟨by rw [HE.out]; rfl, HS.out.next (((HS.out.st.set 1 _).set 2 _).drewN _) (by rw [show (8 * q + 0 + 11) / 8 = q + 1 by omega, show (8 * q + 0 + 11) % 8 = 3 by omega]; simp [Int.add_assoc] <;> omega) (((HS.out.ar.set_other hSD _).set_other hSD _).drewN _) (by rw [HN.out]; exact HF.out), ((((Kept.refl [S] w).setCell (p := ⟨S, 1, none⟩) (.inl (by simp)) _).setCell (p := ⟨S, 2, none⟩) (.inl (by simp)) _).drewN _)⟩
theorem read_1_4 {w : World} {S D : Nat} {xs : List Nat} {q : Nat} (h : BS w S D xs (8 * q + 1)) (hfit : 8 * q + 1 + 4 ≤ 8 * xs.length) : ReadOk w S D xs (8 * q + 1) 4 := by
  obtain ⟨g0, g1, g2, f1, f2⟩ := h.heads (by decide)
  have hSD := h.ne
  have hDS := h.ne.symm
  have hfew := h.few
  obtain ⟨b0, hx0, hb0, d0, e0⟩ := h.byte (q) (by omega)
  obtain ⟨a0, ha0⟩ : ∃ a, b0 / 2 ^ 3 % 2 ^ 4 = a := ⟨_, rfl⟩
  have la0 : a0 < 16 := part_lt ha0 rfl
  have A0 := and_part 120 8 (by decide) rfl rfl hb0 ha0
  have S0 : (a0 : Int) * 8 / 8 = a0 := by omega
  have u0 : (a0 : Int) < 16 := by omega
  have R0 := rd_part (p := 8 * q + 1) (o := 1) (by omega) hx0 (by decide) ha0
  have HE := Lib.hid R0
  have HS := Lib.hid h
  obtain ⟨av, hav⟩ : ∃ av, 8 * xs.length - (8 * q + 1) = av := ⟨_, rfl⟩
  have HA := h.avail hav
  have hk : (4 : Int) ≤ av := by omega
  obtain ⟨n, hn⟩ : ∃ n, xs.length = n := ⟨_, rfl⟩
  rw [hn] at g0 hfit hfew
  have HN := Lib.hid hn
  have HF := Lib.hid hfit
  have qn : (q : Int) ≤ 300 := by omega
  have q0 : (q : Int) < n := by omega
  clear h hav hn hfit hx0 ha0 R0
  have hdr := drewN_set
  have hss1 := set_twice' S 1
  have hss2 := set_twice' S 2
  go_enter Tryz.func227, Tryz.ntmps227
  go_wp2_with fail
  refine HA.out.mono ?_
  rintro e wx ⟨rfl, n1, rfl⟩
  go_wp2_with fail
  go_quiet (fail)
  go_wp2_with fail
  go_ret2
  exact ⟨by rw [HE.out]; rfl, HS.out.next ((HS.out.st.set 2 _).drewN _) (by rw [show (8 * q + 1 + 4) / 8 = q + 0 by omega, show (8 * q + 1 + 4) % 8 = 5 by omega]; simp [Int.add_assoc] <;> omega) ((HS.out.ar.set_other hSD _).drewN _) (by rw [HN.out]; exact HF.out), (((Kept.refl [S] w).setCell (p := ⟨S, 2, none⟩) (.inl (by simp)) _).drewN _)⟩
theorem read_1_6 {w : World} {S D : Nat} {xs : List Nat} {q : Nat} (h : BS w S D xs (8 * q + 1)) (hfit : 8 * q + 1 + 6 ≤ 8 * xs.length) : ReadOk w S D xs (8 * q + 1) 6 := by
  obtain ⟨g0, g1, g2, f1, f2⟩ := h.heads (by decide)
  have hSD := h.ne
  have hDS := h.ne.symm
  have hfew := h.few
  obtain ⟨b0, hx0, hb0, d0, e0⟩ := h.byte (q) (by omega)
  obtain ⟨a0, ha0⟩ : ∃ a, b0 / 2 ^ 1 % 2 ^ 6 = a := ⟨_, rfl⟩
  have la0 : a0 < 64 := part_lt ha0 rfl
  have A0 := and_part 126 2 (by decide) rfl rfl hb0 ha0
  have S0 : (a0 : Int) * 2 / 2 = a0 := by omega
  have u0 : (a0 : Int) < 64 := by omega
  have R0 := rd_part (p := 8 * q + 1) (o := 1) (by omega) hx0 (by decide) ha0
  have HE := Lib.hid R0
  have HS := Lib.hid h
  obtain ⟨av, hav⟩ : ∃ av, 8 * xs.length - (8 * q + 1) = av := ⟨_, rfl⟩
  have HA := h.avail hav
  have hk : (6 : Int) ≤ av := by omega
  obtain ⟨n, hn⟩ : ∃ n, xs.length = n := ⟨_, rfl⟩
  rw [hn] at g0 hfit hfew
  have HN := Lib.hid hn
  have HF := Lib.hid hfit
  have qn : (q : Int) ≤ 300 := by omega
  have q0 : (q : Int) < n := by omega
  clear h hav hn hfit hx0 ha0 R0
  have hdr := drewN_set
  have hss1 := set_twice' S 1
  have hss2 := set_twice' S 2
  go_enter Tryz.func227, Tryz.ntmps227
  go_wp2_with fail
  refine HA.out.mono ?_
  rintro e wx ⟨rfl, n1, rfl⟩
  go_wp2_with fail
  go_quiet (fail)
  go_wp2_with fail
  go_ret2
  exact ⟨by rw [HE.out]; rfl, HS.out.next ((HS.out.st.set 2 _).drewN _) (by rw [show (8 * q + 1 + 6) / 8 = q + 0 by omega, show (8 * q + 1 + 6) % 8 = 7 by omega]; simp [Int.add_assoc] <;> omega) ((HS.out.ar.set_other hSD _).drewN _) (by rw [HN.out]; exact HF.out), (((Kept.refl [S] w).setCell (p := ⟨S, 2, none⟩) (.inl (by simp)) _).drewN _)⟩
theorem read_1_7 {w : World} {S D : Nat} {xs : List Nat} {q : Nat} (h : BS w S D xs (8 * q + 1)) (hfit : 8 * q + 1 + 7 ≤ 8 * xs.length) : ReadOk w S D xs (8 * q + 1) 7 := by
  obtain ⟨g0, g1, g2, f1, f2⟩ := h.heads (by decide)
  have hSD := h.ne
  have hDS := h.ne.symm
  have hfew := h.few
  obtain ⟨b0, hx0, hb0, d0, e0⟩ := h.byte (q) (by omega)
  obtain ⟨a0, ha0⟩ : ∃ a, b0 / 2 ^ 0 % 2 ^ 7 = a := ⟨_, rfl⟩
  have la0 : a0 < 128 := part_lt ha0 rfl
  have A0 := and_part0 127 (by decide) rfl hb0 ha0
  have u0 : (a0 : Int) < 128 := by omega
  have R0 := rd_part (p := 8 * q + 1) (o := 1) (by omega) hx0 (by decide) ha0
  have HE := Lib.hid R0
  have HS := Lib.hid h
  obtain ⟨av, hav⟩ : ∃ av, 8 * xs.length - (8 * q + 1) = av := ⟨_, rfl⟩
  have HA := h.avail hav
  have hk : (7 : Int) ≤ av := by omega
  obtain ⟨n, hn⟩ : ∃ n, xs.length = n := ⟨_, rfl⟩
  rw [hn] at g0 hfit hfew
  have HN := Lib.hid hn
  have HF := Lib.hid hfit
  have qn : (q : Int) ≤ 300 := by omega
  have q0 : (q : Int) < n := by omega
  clear h hav hn hfit hx0 ha0 R0
  have hdr := drewN_set
  have hss1 := set_twice' S 1
  have hss2 := set_twice' S 2
  go_enter Tryz.func227, Tryz.ntmps227
  go_wp2_with fail
  refine HA.out.mono ?_
  rintro e wx ⟨rfl, n1, rfl⟩
  go_wp2_with fail
  go_quiet (fail)
  go_wp2_with fail
  go_ret2
  exact ⟨by rw [HE.out]; rfl, HS.out.next (((HS.out.st.set 2 _).set 1 _).drewN _) (by rw [show (8 * q + 1 + 7) / 8 = q + 1 by omega, show (8 * q + 1 + 7) % 8 = 0 by omega]; simp [Int.add_assoc] <;> omega) (((HS.out.ar.set_other hSD _).set_other hSD _).drewN _) (by rw [HN.out]; exact HF.out), ((((Kept.refl [S] w).setCell (p := ⟨S, 2, none⟩) (.inl (by simp)) _).setCell (p := ⟨S, 1, none⟩) (.inl (by simp)) _).drewN _)⟩
theorem read_1_8 {w : World} {S D : Nat} {xs : List Nat} {q : Nat} (h : BS w S D xs (8 * q + 1)) (hfit : 8 * q + 1 + 8 ≤ 8 * xs.length) : ReadOk w S D xs (8 * q + 1) 8 := by
  obtain ⟨g0, g1, g2, f1, f2⟩ := h.heads (by decide)
  have hSD := h.ne
  have hDS := h.ne.symm
  have hfew := h.few
  obtain ⟨b0, hx0, hb0, d0, e0⟩ := h.byte (q) (by omega)
  obtain ⟨b1, hx1, hb1, d1, e1⟩ := h.byte (q + 1) (by omega)
  obtain ⟨a0, ha0⟩ : ∃ a, b0 / 2 ^ 0 % 2 ^ 7 = a := ⟨_, rfl⟩
  have la0 : a0 < 128 := part_lt ha0 rfl
  have A0 := and_part0 127 (by decide) rfl hb0 ha0
  have u0 : (a0 : Int) < 128 := by omega
  have R0 := rd_part (p := 8 * q + 1) (o := 1) (by omega) hx0 (by decide) ha0
  obtain ⟨a1, ha1⟩ : ∃ a, b1 / 2 ^ 7 % 2 ^ 1 = a := ⟨_, rfl⟩
  have la1 : a1 < 2 := part_lt ha1 rfl
  have A1 := and_part 128 128 (by decide) rfl rfl hb1 ha1
  have S1 : (a1 : Int) * 128 / 128 = a1 := by omega
  have u1 : (a1 : Int) < 2 := by omega
  have R1 := rd_part (p := 8 * q + 1 + 7) (o := 0) (by omega) hx1 (by decide) ha1
  obtain ⟨c1, hc1⟩ : ∃ c, a0 * 2 + a1 = c := ⟨_, rfl⟩
  have O1 := or_more 1 2 rfl hc1 rfl la1 (by decide) (by omega)
  have v1 : (c1 : Int) < 256 := by omega
  have E1 : rd (byteBits xs) (8 * q + 1) 8 = c1 := rd_more (a := 7) (b := 1) (by omega) R0 R1 hc1
  have HE := Lib.hid E1
  have HS := Lib.hid h
  obtain ⟨av, hav⟩ : ∃ av, 8 * xs.length - (8 * q + 1) = av := ⟨_, rfl⟩
  have HA := h.avail hav
  have hk : (8 : Int) ≤ av := by omega
  obtain ⟨n, hn⟩ : ∃ n, xs.length = n := ⟨_, rfl⟩
  rw [hn] at g0 hfit hfew
  have HN := Lib.hid hn
  have HF := Lib.hid hfit
  have qn : (q : Int) ≤ 300 := by omega
  have q0 : (q : Int) < n := by omega
  have q1 : (q : Int) + 1 < n := by omega
  clear h hav hn hfit hx0 hx1 ha0 ha1 R0 R1 E1 hc1
  have hdr := drewN_set
  have hss1 := set_twice' S 1
  have hss2 := set_twice' S 2
  go_enter Tryz.func227, Tryz.ntmps227
  go_wp2_with fail
  refine HA.out.mono ?_
  rintro e wx ⟨rfl, n1, rfl⟩
  go_wp2_with fail
  go_quiet (fail)
  go_wp2_with fail
  refine wp_loop_rounds 1 ?_
  rw [rounds_succ]
  go_wp2_with fail
  go_quiet (fail)
  go_wp2_with fail
  go_ret2
  exact ⟨by rw [HE.out]; rfl, HS.out.next ((((HS.out.st.set 2 _).set 1 _).set 2 _).drewN _) (by rw [show (8 * q + 1 + 8) / 8 = q + 1 by omega, show (8 * q + 1 + 8) % 8 = 1 by omega]; simp [Int.add_assoc] <;> omega) ((((HS.out.ar.set_other hSD _).set_other hSD _).set_other hSD _).drewN _) (by rw [HN.out]; exact HF.out), (((((Kept.refl [S] w).setCell (p := ⟨S, 2, none⟩) (.inl (by simp)) _).setCell (p := ⟨S, 1, none⟩) (.inl (by simp)) _).setCell (p := ⟨S, 2, none⟩) (.inl (by simp)) _).drewN _)⟩
theorem read_1_9 {w : World} {S D : Nat} {xs : List Nat} {q : Nat} (h : BS w S D xs (8 * q + 1)) (hfit : 8 * q + 1 + 9 ≤ 8 * xs.length) : ReadOk w S D xs (8 * q + 1) 9 := by
  obtain ⟨g0, g1, g2, f1, f2⟩ := h.heads (by decide)
  have hSD := h.ne
  have hDS := h.ne.symm
  have hfew := h.few
  obtain ⟨b0, hx0, hb0, d0, e0⟩ := h.byte (q) (by omega)
  obtain ⟨b1, hx1, hb1, d1, e1⟩ := h.byte (q + 1) (by omega)
  obtain ⟨a0, ha0⟩ : ∃ a, b0 / 2 ^ 0 % 2 ^ 7 = a := ⟨_, rfl⟩
  have la0 : a0 < 128 := part_lt ha0 rfl
  have A0 := and_part0 127 (by decide) rfl hb0 ha0
  have u0 : (a0 : Int) < 128 := by omega
  have R0 := rd_part (p := 8 * q + 1) (o := 1) (by omega) hx0 (by decide) ha0
  obtain ⟨a1, ha1⟩ : ∃ a, b1 / 2 ^ 6 % 2 ^ 2 = a := ⟨_, rfl⟩
  have la1 : a1 < 4 := part_lt ha1 rfl
  have A1 := and_part 192 64 (by decide) rfl rfl hb1 ha1
  have S1 : (a1 : Int) * 64 / 64 = a1 := by omega
  have u1 : (a1 : Int) < 4 := by omega
  have R1 := rd_part (p := 8 * q + 1 + 7) (o := 0) (by omega) hx1 (by decide) ha1
  obtain ⟨c1, hc1⟩ : ∃ c, a0 * 4 + a1 = c := ⟨_, rfl⟩
  have O1 := or_more 2 4 rfl hc1 rfl la1 (by decide) (by omega)
  have v1 : (c1 : Int) < 512 := by omega
  have E1 : rd (byteBits xs) (8 * q + 1) 9 = c1 := rd_more (a := 7) (b := 2) (by omega) R0 R1 hc1
  have HE := Lib.hid E1
  have HS := Lib.hid h
  obtain ⟨av, hav⟩ : ∃ av, 8 * xs.length - (8 * q + 1) = av := ⟨_, rfl⟩
  have HA := h.avail hav
  have hk : (9 : Int) ≤ av := by omega
  obtain ⟨n, hn⟩ : ∃ n, xs.length = n := ⟨_, rfl⟩
  rw [hn] at g0 hfit hfew
  have HN := Lib.hid hn
  have HF := Lib.hid hfit
  have qn : (q : Int) ≤ 300 := by omega
  have q0 : (q : Int) < n := by omega
  have q1 : (q : Int) + 1 < n := by omega
  clear h hav hn hfit hx0 hx1 ha0 ha1 R0 R1 E1 hc1
  have hdr := drewN_set
  have hss1 := set_twice' S 1
  have hss2 := set_twice' S 2
  go_enter Tryz.func227, Tryz.ntmps227
  go_wp2_with fail
  refine HA.out.mono ?_
  rintro e wx ⟨rfl, n1, rfl⟩
  go_wp2_with fail
  go_quiet (fail)
  go_wp2_with fail
  refine wp_loop_rounds 1 ?_
  rw [rounds_succ]
  go_wp2_with fail
  go_quiet (fail)
  go_wp2_with fail
  go_ret2
  exact ⟨by rw [HE.out]; rfl, HS.out.next ((((HS.out.st.set 2 _).set 1 _).set 2 _).drewN _) (by rw [show (8 * q + 1 + 9) / 8 = q + 1 by omega, show (8 * q + 1 + 9) % 8 = 2 by omega]; simp [Int.add_assoc] <;> omega) ((((HS.out.ar.set_other hSD _).set_other hSD _).set_other hSD _).drewN _) (by rw [HN.out]; exact HF.out), (((((Kept.refl [S] w).setCell (p := ⟨S, 2, none⟩) (.inl (by simp)) _).setCell (p := ⟨S, 1, none⟩) (.inl (by simp)) _).setCell (p := ⟨S, 2, none⟩) (.inl (by simp)) _).drewN _)⟩
theorem read_1_10 {w : World} {S D : Nat} {xs : List Nat} {q : Nat} (h : BS w S D xs (8 * q + 1)) (hfit : 8 * q + 1 + 10 ≤ 8 * xs.length) : ReadOk w S D xs (8 * q + 1) 10 := by
  obtain ⟨g0, g1, g2, f1, f2⟩ := h.heads (by decide)
  have hSD := h.ne
  have hDS := h.ne.symm
  have hfew := h.few
  obtain ⟨b0, hx0, hb0, d0, e0⟩ := h.byte (q) (by omega)
  obtain ⟨b1, hx1, hb1, d1, e1⟩ := h.byte (q + 1) (by omega)
  obtain ⟨a0, ha0⟩ : ∃ a, b0 / 2 ^ 0 % 2 ^ 7 = a := ⟨_, rfl⟩
  have la0 : a0 < 128 := part_lt ha0 rfl
  have A0 := and_part0 127 (by decide) rfl hb0 ha0
  have u0 : (a0 : Int) < 128 := by omega
  have R0 := rd_part (p := 8 * q + 1) (o := 1) (by omega) hx0 (by decide) ha0
  obtain ⟨a1, ha1⟩ : ∃ a, b1 / 2 ^ 5 % 2 ^ 3 = a := ⟨_, rfl⟩
  have la1 : a1 < 8 := part_lt ha1 rfl
  have A1 := and_part 224 32 (by decide) rfl rfl hb1 ha1
  have S1 : (a1 : Int) * 32 / 32 = a1 := by omega
  have u1 : (a1 : Int) < 8 := by omega
  have R1 := rd_part (p := 8 * q + 1 + 7) (o := 0) (by omega) hx1 (by decide) ha1
  obtain ⟨c1, hc1⟩ : ∃ c, a0 * 8 + a1 = c := ⟨_, rfl⟩
  have O1 := or_more 3 8 rfl hc1 rfl la1 (by decide) (by omega)
  have v1 : (c1 : Int) < 1024 := by omega
  have E1 : rd (byteBits xs) (8 * q + 1) 10 = c1 := rd_more (a := 7) (b := 3) (by omega) R0 R1 hc1
  have HE := Lib.hid E1
  have HS := Lib.hid h
  obtain ⟨av, hav⟩ : ∃ av, 8 * xs.length - (8 * q + 1) = av := ⟨_, rfl⟩
  have HA := h.avail hav
  have hk : (10 : Int) ≤ av := by omega
  obtain ⟨n, hn⟩ : ∃ n, xs.length = n := ⟨_, rfl⟩
  rw [hn] at g0 hfit hfew
  have HN := Lib.hid hn
  have HF := Lib.hid hfit
  have qn : (q : Int) ≤ 300 := by omega
  have q0 : (q : Int) < n := by omega
  have q1 : (q : Int) + 1 < n := by omega
  clear h hav hn hfit hx0 hx1 ha0 ha1 R0 R1 E1 hc1
  have hdr := drewN_set
  have hss1 := set_twice' S 1
  have hss2 := set_twice' S 2
  go_enter Tryz.func227, Tryz.ntmps227
  go_wp2_with fail
  refine HA.out.mono ?_
  rintro e wx ⟨rfl, n1, rfl⟩
  go_wp2_with fail
  go_quiet (fail)
  go_wp2_with fail
  refine wp_loop_rounds 1 ?_
  rw [rounds_succ]
  go_wp2_with fail
  go_quiet (fail)
  go_wp2_with fail
  go_ret2
  exact ⟨by rw [HE.out]; rfl, HS.out.next ((((HS.out.st.set 2 _).set 1 _).set 2 _).drewN _) (by rw [show (8 * q + 1 + 10) / 8 = q + 1 by omega, show (8 * q + 1 + 10) % 8 = 3 by omega]; simp [Int.add_assoc] <;> omega) ((((HS.out.ar.set_other hSD _).set_other hSD _).set_other hSD _).drewN _) (by rw [HN.out]; exact HF.out), (((((Kept.refl [S] w).setCell (p := ⟨S, 2, none⟩) (.inl (by simp)) _).setCell (p := ⟨S, 1, none⟩) (.inl (by simp)) _).setCell (p := ⟨S, 2, none⟩) (.inl (by simp)) _).drewN _)⟩
theorem read_1_11 {w : World} {S D : Nat} {xs : List Nat} {q : Nat} (h : BS w S D xs (8 * q + 1)) (hfit : 8 * q + 1 + 11 ≤ 8 * xs.length) : ReadOk w S D xs (8 * q + 1) 11 := by
  obtain ⟨g0, g1, g2, f1, f2⟩ := h.heads (by decide)
  have hSD := h.ne
  have hDS := h.ne.symm
  have hfew := h.few
  obtain ⟨b0, hx0, hb0, d0, e0⟩ := h.byte (q) (by omega)
  obtain ⟨b1, hx1, hb1, d1, e1⟩ := h.byte (q + 1) (by omega)
  obtain ⟨a0, ha0⟩ : ∃ a, b0 / 2 ^ 0 % 2 ^ 7 = a := ⟨_, rfl⟩
  have la0 : a0 < 128 := part_lt ha0 rfl
  have A0 := and_part0 127 (by decide) rfl hb0 ha0
  have u0 : (a0 : Int) < 128 := by omega
  have R0 := rd_part (p := 8 * q + 1) (o := 1) (by omega) hx0 (by decide) ha0
  obtain ⟨a1, ha1⟩ : ∃ a, b1 / 2 ^ 4 % 2 ^ 4 = a := ⟨_, rfl⟩
  have la1 : a1 < 16 := part_lt ha1 rfl
  have A1 := and_part 240 16 (by decide) rfl rfl hb1 ha1
  have S1 : (a1 : Int) * 16 / 16 = a1 := by omega
  have u1 : (a1 : Int) < 16 := by omega
  have R1 := rd_part (p := 8 * q + 1 + 7) (o := 0) (by omega) hx1 (by decide) ha1
  obtain ⟨c1, hc1⟩ : ∃ c, a0 * 16 + a1 = c := ⟨_, rfl⟩
  have O1 := or_more 4 16 rfl hc1 rfl la1 (by decide) (by omega)
  have v1 : (c1 : Int) < 2048 := by omega
  have E1 : rd (byteBits xs) (8 * q + 1) 11 = c1 := rd_more (a := 7) (b := 4) (by omega) R0 R1 hc1
  have HE := Lib.hid E1
  have HS := Lib.hid h
  obtain ⟨av, hav⟩ : ∃ av, 8 * xs.length - (8 * q + 1) = av := ⟨_, rfl⟩
  have HA := h.avail hav
  have hk : (11 : Int) ≤ av := by omega
  obtain ⟨n, hn⟩ : ∃ n, xs.length = n := ⟨_, rfl⟩
  rw [hn] at g0 hfit hfew
  have HN := Lib.hid hn
  have HF := Lib.hid hfit
  have qn : (q : Int) ≤ 300 := by omega
  have q0 : (q : Int) < n := by omega
  have q1 : (q : Int) + 1 < n := by omega
  clear h hav hn hfit hx0 hx1 ha0 ha1 R0 R1 E1 hc1
  have hdr := drewN_set
  have hss1 := set_twice' S 1
  have hss2 := set_twice' S 2
  go_enter Tryz.func227, Tryz.ntmps227
  go_wp2_with fail
  refine HA.out.mono ?_
  rintro e wx ⟨rfl, n1, rfl⟩
  go_wp2_with fail
  go_quiet (fail)
  go_wp2_with fail
  refine wp_loop_rounds 1 ?_
  rw [rounds_succ]
  go_wp2_with fail
  go_quiet (fail)
  go_wp2_with fail
  go_ret2
  exact ⟨by rw [HE.out]; rfl, HS.out.next ((((HS.out.st.set 2 _).set 1 _).set 2 _).drewN _) (by rw [show (8 * q + 1 + 11) / 8 = q + 1 by omega, show (8 * q + 1 + 11) % 8 = 4 by omega]; simp [Int.add_assoc] <;> omega) ((((HS.out.ar.set_other hSD _).set_other hSD _).set_other hSD _).drewN _) (by rw [HN.out]; exact HF.out), (((((Kept.refl [S] w).setCell (p := ⟨S, 2, none⟩) (.inl (by simp)) _).setCell (p := ⟨S, 1, none⟩) (.inl (by simp)) _).setCell (p := ⟨S, 2, none⟩) (.inl (by simp)) _).drewN _)⟩
end

section
set_option maxRecDepth 100000
set_option maxHeartbeats 1000000
theorem read_2_4 {w : World} {S D : Nat} {xs : List Nat} {q : Nat} (h : BS w S D xs (8 * q + 2)) (hfit : 8 * q + 2 + 4 ≤ 8 * xs.length) : ReadOk w S D xs (8 * q + 2) 4 := by
  obtain ⟨g0, g1, g2, f1, f2⟩ := h.heads (by decide)
  have hSD := h.ne
  have hDS := h.ne.symm
  have hfew := h.few
  obtain ⟨b0, hx0, hb0, d0, e0⟩ := h.byte (q) (by omega)
  obtain ⟨a0, ha0⟩ : ∃ a, b0 / 2 ^ 2 % 2 ^ 4 = a := ⟨_, rfl⟩
  have la0 : a0 < 16 := part_lt ha0 rfl
  have A0 := and_part 60 4 (by decide) rfl rfl hb0 ha0
  have S0 : (a0 : Int) * 4 / 4 = a0 := by omega
  have u0 : (a0 : Int) < 16 := by omega
  have R0 := rd_part (p := 8 * q + 2) (o := 2) (by omega) hx0 (by decide) ha0
  have HE := Lib.hid R0
  have HS := Lib.hid h
  obtain ⟨av, hav⟩ : ∃ av, 8 * xs.length - (8 * q + 2) = av := ⟨_, rfl⟩
  have HA := h.avail hav
  have hk : (4 : Int) ≤ av := by omega
  obtain ⟨n, hn⟩ : ∃ n, xs.length = n := ⟨_, rfl⟩
  rw [hn] at g0 hfit hfew
  have HN := Lib.hid hn
  have HF := Lib.hid hfit
  have qn : (q : Int) ≤ 300 := by omega
  have q0 : (q : Int) < n := by omega
  clear h hav hn hfit hx0 ha0 R0
  have hdr := drewN_set
  have hss1 := set_twice' S 1
  have hss2 := set_twice' S 2
  go_enter Tryz.func227, Tryz.ntmps227
  go_wp2_with fail
  refine HA.out.mono ?_
  rintro e wx ⟨rfl, n1, rfl⟩
  go_wp2_with fail
  go_quiet (fail)
  go_wp2_with fail
  go_ret2
  exact ⟨by rw [HE.out]; rfl, HS.out.next ((HS.out.st.set 2 _).drewN _) (by rw [show (8 * q + 2 + 4) / 8 = q + 0 by omega, show (8 * q + 2 + 4) % 8 = 6 by omega]; simp [Int.add_assoc] <;> omega) ((HS.out.ar.set_other hSD _).drewN _) (by rw [HN.out]; exact HF.out), (((Kept.refl [S] w).setCell (p := ⟨S, 2, none⟩) (.inl (by simp)) _).drewN _)⟩
theorem read_2_6 {w : World} {S D : Nat} {xs : List Nat} {q : Nat} (h : BS w S D xs (8 * q + 2)) (hfit : 8 * q + 2 + 6 ≤ 8 * xs.length) : ReadOk w S D xs (8 * q + 2) 6 := by
  obtain ⟨g0, g1, g2, f1, f2⟩ := h.heads (by decide)
  have hSD := h.ne
  have hDS := h.ne.symm
  have hfew := h.few
  obtain ⟨b0, hx0, hb0, d0, e0⟩ := h.byte (q) (by omega)
  obtain ⟨a0, ha0⟩ : ∃ a, b0 / 2 ^ 0 % 2 ^ 6 = a := ⟨_, rfl⟩
  have la0 : a0 < 64 := part_lt ha0 rfl
  have A0 := and_part0 63 (by decide) rfl hb0 ha0
  have u0 : (a0 : Int) < 64 := by omega
  have R0 := rd_part (p := 8 * q + 2) (o := 2) (by omega) hx0 (by decide) ha0
  have HE := Lib.hid R0
  have HS := Lib.hid h
  obtain ⟨av, hav⟩ : ∃ av, 8 * xs.length - (8 * q + 2) = av := ⟨_, rfl⟩
  have HA := h.avail hav
  have hk : (6 : Int) ≤ av := by omega
  obtain ⟨n, hn⟩ : ∃ n, xs.length = n := ⟨_, rfl⟩
  rw [hn] at g0 hfit hfew
  have HN := Lib.hid hn
  have HF := Lib.hid hfit
  have qn : (q : Int) ≤ 300 := by omega
  have q0 : (q : Int) < n := by omega
  clear h hav hn hfit hx0 ha0 R0
  have hdr := drewN_set
  have hss1 := set_twice' S 1
  have hss2 := set_twice' S 2
  go_enter Tryz.func227, Tryz.ntmps227
  go_wp2_with fail
  refine HA.out.mono ?_
  rintro e wx ⟨rfl, n1, rfl⟩
  go_wp2_with fail
  go_quiet (fail)
  go_wp2_with fail
  go_ret2
  exact ⟨by rw [HE.out]; rfl, HS.out.next (((HS.out.st.set 2 _).set 1 _).drewN _) (by rw [show (8 * q + 2 + 6) / 8 = q + 1 by omega, show (8 * q + 2 + 6) % 8 = 0 by omega]; simp [Int.add_assoc] <;> omega) (((HS.out.ar.set_other hSD _).set_other hSD _).drewN _) (by rw [HN.out]; exact HF.out), ((((Kept.refl [S] w).setCell (p := ⟨S, 2, none⟩) (.inl (by simp)) _).setCell (p := ⟨S, 1, none⟩) (.inl (by simp)) _).drewN _)⟩
theorem read_2_7 {w : World} {S D : Nat} {xs : List Nat} {q : Nat} (h : BS w S D xs (8 * q + 2)) (hfit : 8 * q + 2 + 7 ≤ 8 * xs.length) : ReadOk w S D xs (8 * q + 2) 7 := by
  obtain ⟨g0, g1, g2, f1, f2⟩ := h.heads (by decide)
  have hSD := h.ne
  have hDS := h.ne.symm
  have hfew := h.few
  obtain ⟨b0, hx0, hb0, d0, e0⟩ := h.byte (q) (by omega)
  obtain ⟨b1, hx1, hb1, d1, e1⟩ := h.byte (q + 1) (by omega)
  obtain ⟨a0, ha0⟩ : ∃ a, b0 / 2 ^ 0 % 2 ^ 6 = a := ⟨_, rfl⟩
  have la0 : a0 < 64 := part_lt ha0 rfl
  have A0 := and_part0 63 (by decide) rfl hb0 ha0
  have u0 : (a0 : Int) < 64 := by omega
  have R0 := rd_part (p := 8 * q + 2) (o := 2) (by omega) hx0 (by decide) ha0
  obtain ⟨a1, ha1⟩ : ∃ a, b1 / 2 ^ 7 % 2 ^ 1 = a := ⟨_, rfl⟩
  have la1 : a1 < 2 := part_lt ha1 rfl
  have A1 := and_part 128 128 (by decide) rfl rfl hb1 ha1
  have S1 : (a1 : Int) * 128 / 128 = a1 := by omega
  have u1 : (a1 : Int) < 2 := by omega
  have R1 := rd_part (p := 8 * q + 2 + 6) (o := 0) (by omega) hx1 (by decide) ha1
  obtain ⟨c1, hc1⟩ : ∃ c, a0 * 2 + a1 = c := ⟨_, rfl⟩
  have O1 := or_more 1 2 rfl hc1 rfl la1 (by decide) (by omega)
  have v1 : (c1 : Int) < 128 := by omega
  have E1 : rd (byteBits xs) (8 * q + 2) 7 = c1 := rd_more (a := 6) (b := 1) (by omega) R0 R1 hc1
  have HE := Lib.hid E1
  have HS := Lib.hid h
  obtain ⟨av, hav⟩ : ∃ av, 8 * xs.length - (8 * q + 2) = av := ⟨_, rfl⟩
  have HA := h.avail hav
  have hk : (7 : Int) ≤ av := by omega
  obtain ⟨n, hn⟩ : ∃ n, xs.length = n := ⟨_, rfl⟩
  rw [hn] at g0 hfit hfew
  have HN := Lib.hid hn
  have HF := Lib.hid hfit
  have qn : (q : Int) ≤ 300 := by omega
  have q0 : (q : Int) < n := by omega
  have q1 : (q : Int) + 1 < n := by omega
  clear h hav hn hfit hx0 hx1 ha0 ha1 R0 R1 E1 hc1
  have hdr := drewN_set
  have hss1 := set_twice' S 1
  have hss2 := set_twice' S 2
  go_enter Tryz.func227, Tryz.ntmps227
  go_wp2_with fail
  refine HA.out.mono ?_
  rintro e wx ⟨rfl, n1, rfl⟩
  go_wp2_with fail
  go_quiet (fail)
  go_wp2_with fail
  refine wp_loop_rounds 1 ?_
  rw [rounds_succ]
  go_wp2_with fail
  go_quiet (fail)
  go_wp2_with fail
  go_ret2
  exact ⟨by rw [HE.out]; rfl, HS.out.next ((((HS.out.st.set 2 _).set 1 _).set 2 _).drewN _) (by rw [show (8 * q + 2 + 7) / 8 = q + 1 by omega, show (8 * q + 2 + 7) % 8 = 1 by omega]; simp [Int.add_assoc] <;> omega) ((((HS.out.ar.set_other hSD _).set_other hSD _).set_other hSD _).drewN _) (by rw [HN.out]; exact HF.out), (((((Kept.refl [S] w).setCell (p := ⟨S, 2, none⟩) (.inl (by simp)) _).setCell (p := ⟨S, 1, none⟩) (.inl (by simp)) _).setCell (p := ⟨S, 2, none⟩) (.inl (by simp)) _).drewN _)⟩
theorem read_2_8 {w : World} {S D : Nat} {xs : List Nat} {q : Nat} (h : BS w S D xs (8 * q + 2)) (hfit : 8 * q + 2 + 8 ≤ 8 * xs.length) : ReadOk w S D xs (8 * q + 2) 8 := by
  obtain ⟨g0, g1, g2, f1, f2⟩ := h.heads (by decide)
  have hSD := h.ne
  have hDS := h.ne.symm
  have hfew := h.few
  obtain ⟨b0, hx0, hb0, d0, e0⟩ := h.byte (q) (by omega)
  obtain ⟨b1, hx1, hb1, d1, e1⟩ := h.byte (q + 1) (by omega)
  obtain ⟨a0, ha0⟩ : ∃ a, b0 / 2 ^ 0 % 2 ^ 6 = a := ⟨_, rfl⟩
  have la0 : a0 < 64 := part_lt ha0 rfl
  have A0 := and_part0 63 (by decide) rfl hb0 ha0
  have u0 : (a0 : Int) < 64 := by omega
  have R0 := rd_part (p := 8 * q + 2) (o := 2) (by omega) hx0 (by decide) ha0
  obtain ⟨a1, ha1⟩ : ∃ a, b1 / 2 ^ 6 % 2 ^ 2 = a := ⟨_, rfl⟩
  have la1 : a1 < 4 := part_lt ha1 rfl
  have A1 := and_part 192 64 (by decide) rfl rfl hb1 ha1
  have S1 : (a1 : Int) * 64 / 64 = a1 := by omega
  have u1 : (a1 : Int) < 4 := by omega
  have R1 := rd_part (p := 8 * q + 2 + 6) (o := 0) (by omega) hx1 (by decide) ha1
  obtain ⟨c1, hc1⟩ : ∃ c, a0 * 4 + a1 = c := ⟨_, rfl⟩
  have O1 := or_more 2 4 rfl hc1 rfl la1 (by decide) (by omega)
  have v1 : (c1 : Int) < 256 := by omega
  have E1 : rd (byteBits xs) (8 * q + 2) 8 = c1 := rd_more (a := 6) (b := 2) (by omega) R0 R1 hc1
  have HE := Lib.hid E1
  have HS := Lib.hid h
  obtain ⟨av, hav⟩ : ∃ av, 8 * xs.length - (8 * q + 2) = av := ⟨_, rfl⟩
  have HA := h.avail hav
  have hk : (8 : Int) ≤ av := by omega
  obtain ⟨n, hn⟩ : ∃ n, xs.length = n := ⟨_, rfl⟩
  rw [hn] at g0 hfit hfew
  have HN := Lib.hid hn
  have HF := Lib.hid hfit
  have qn : (q : Int) ≤ 300 := by omega
  have q0 : (q : Int) < n := by omega
  have q1 : (q : Int) + 1 < n := by omega
  clear h hav hn hfit hx0 hx1 ha0 ha1 R0 R1 E1 hc1
  have hdr := drewN_set
  have hss1 := set_twice' S 1
  have hss2 := set_twice' S 2
  go_enter Tryz.func227, Tryz.ntmps227
  go_wp2_with fail
  refine HA.out.mono ?_
  rintro e wx ⟨rfl, n1, rfl⟩
  go_wp2_with fail
  go_quiet (fail)
  go_wp2_with fail
  refine wp_loop_rounds 1 ?_
  rw [rounds_succ]
  go_wp2_with fail
  go_quiet (fail)
  go_wp2_with fail
  go_ret2
  exact ⟨by rw [HE.out]; rfl, HS.out.next ((((HS.out.st.set 2 _).set 1 _).set 2 _).drewN _) (by rw [show (8 * q + 2 + 8) / 8 = q + 1 by omega, show (8 * q + 2 + 8) % 8 = 2 by omega]; simp [Int.add_assoc] <;> omega) ((((HS.out.ar.set_other hSD _).set_other hSD _).set_other hSD _).drewN _) (by rw [HN.out]; exact HF.out), (((((Kept.refl [S] w).setCell (p := ⟨S, 2, none⟩) (.inl (by simp)) _).setCell (p := ⟨S, 1, none⟩) (.inl (by simp)) _).setCell (p := ⟨S, 2, none⟩) (.inl (by simp)) _).drewN _)⟩
theorem read_2_9 {w : World} {S D : Nat} {xs : List Nat} {q : Nat} (h : BS w S D xs (8 * q + 2)) (hfit : 8 * q + 2 + 9 ≤ 8 * xs.length) : ReadOk w S D xs (8 * q + 2) 9 := by
  obtain ⟨g0, g1, g2, f1, f2⟩ := h.heads (by decide)
  have hSD := h.ne
  have hDS := h.ne.symm
  have hfew := h.few
  obtain ⟨b0, hx0, hb0, d0, e0⟩ := h.byte (q) (by omega)
  obtain ⟨b1, hx1, hb1, d1, e1⟩ := h.byte (q + 1) (by omega)
  obtain ⟨a0, ha0⟩ : ∃ a, b0 / 2 ^ 0 % 2 ^ 6 = a := ⟨_, rfl⟩
  have la0 : a0 < 64 := part_lt ha0 rfl
  have A0 := and_part0 63 (by decide) rfl hb0 ha0
  have u0 : (a0 : Int) < 64 := by omega
  have R0 := rd_part (p := 8 * q + 2) (o := 2) (by omega) hx0 (by decide) ha0
  obtain ⟨a1, ha1⟩ : ∃ a, b1 / 2 ^ 5 % 2 ^ 3 = a := ⟨_, rfl⟩
  have la1 : a1 < 8 := part_lt ha1 rfl
  have A1 := and_part 224 32 (by decide) rfl rfl hb1 ha1
  have S1 : (a1 : Int) * 32 / 32 = a1 := by omega
  have u1 : (a1 : Int) < 8 := by omega
  have R1 := rd_part (p := 8 * q + 2 + 6) (o := 0) (by omega) hx1 (by decide) ha1
  obtain ⟨c1, hc1⟩ : ∃ c, a0 * 8 + a1 = c := ⟨_, rfl⟩
  have O1 := or_more 3 8 rfl hc1 rfl la1 (by decide) (by omega)
  have v1 : (c1 : Int) < 512 := by omega
  have E1 : rd (byteBits xs) (8 * q + 2) 9 = c1 := rd_more (a := 6) (b := 3) (by omega) R0 R1 hc1
  have HE := Lib.hid E1
  have HS := Lib.hid h
  obtain ⟨av, hav⟩ : ∃ av, 8 * xs.length - (8 * q + 2) = av := ⟨_, rfl⟩
  have HA := h.avail hav
  have hk : (9 : Int) ≤ av := by omega
  obtain ⟨n, hn⟩ : ∃ n, xs.length = n := ⟨_, rfl⟩
  rw [hn] at g0 hfit hfew
  have HN := Lib.hid hn
  have HF := Lib.hid hfit
  have qn : (q : Int) ≤ 300 := by omega
  have q0 : (q : Int) < n := by omega
  have q1 : (q : Int) + 1 < n := by omega
  clear h hav hn hfit hx0 hx1 ha0 ha1 R0 R1 E1 hc1
  have hdr := drewN_set
  have hss1 := set_twice' S 1
  have hss2 := set_twice' S 2
  go_enter Tryz.func227, Tryz.ntmps227
  go_wp2_with fail
  refine HA.out.mono ?_
  rintro e wx ⟨rfl, n1, rfl⟩
  go_wp2_with fail
  go_quiet (fail)
  go_wp2_with fail
  refine wp_loop_rounds 1 ?_
  rw [rounds_succ]
  go_wp2_with fail
  go_quiet (fail)
  go_wp2_with fail
  go_ret2
  exact ⟨by rw [HE.out]; rfl, HS.out.next ((((HS.out.st.set 2 _).set 1 _).set 2 _).drewN _) (by rw [show (8 * q + 2 + 9) / 8 = q + 1 by omega, show (8 * q + 2 + 9) % 8 = 3 by omega]; simp [Int.add_assoc] <;> omega) ((((HS.out.ar.set_other hSD _).set_other hSD _).set_other hSD _).drewN _) (by rw [HN.out]; exact HF.out), (((((Kept.refl [S] w).setCell (p := ⟨S, 2, none⟩) (.inl (by simp)) _).setCell (p := ⟨S, 1, none⟩) (.inl (by simp)) _).setCell (p := ⟨S, 2, none⟩) (.inl (by simp)) _).drewN _)⟩
theorem read_2_10 {w : World} {S D : Nat} {xs : List Nat} {q : Nat} (h : BS w S D xs (8 * q + 2)) (hfit : 8 * q + 2 + 10 ≤ 8 * xs.length) : ReadOk w S D xs (8 * q + 2) 10 := by
  obtain ⟨g0, g1, g2, f1, f2⟩ := h.heads (by decide)
  have hSD := h.ne
  have hDS := h.ne.symm
  have hfew := h.few
  obtain ⟨b0, hx0, hb0, d0, e0⟩ := h.byte (q) (by omega)
  obtain ⟨b1, hx1, hb1, d1, e1⟩ := h.byte (q + 1) (by omega)
  obtain ⟨a0, ha0⟩ : ∃ a, b0 / 2 ^ 0 % 2 ^ 6 = a := ⟨_, rfl⟩
  have la0 : a0 < 64 := part_lt ha0 rfl
  have A0 := and_part0 63 (by decide) rfl hb0 ha0
  have u0 : (a0 : Int) < 64 := by omega
  have R0 := rd_part (p := 8 * q + 2) (o := 2) (by omega) hx0 (by decide) ha0
  obtain ⟨a1, ha1⟩ : ∃ a, b1 / 2 ^ 4 % 2 ^ 4 = a := ⟨_, rfl⟩
  have la1 : a1 < 16 := part_lt ha1 rfl
  have A1 := and_part 240 16 (by decide) rfl rfl hb1 ha1
  have S1 : (a1 : Int) * 16 / 16 = a1 := by omega
  have u1 : (a1 : Int) < 16 := by omega
  have R1 := rd_part (p := 8 * q + 2 + 6) (o := 0) (by omega) hx1 (by decide) ha1
  obtain ⟨c1, hc1⟩ : ∃ c, a0 * 16 + a1 = c := ⟨_, rfl⟩
  have O1 := or_more 4 16 rfl hc1 rfl la1 (by decide) (by omega)
  have v1 : (c1 : Int) < 1024 := by omega
  have E1 : rd (byteBits xs) (8 * q + 2) 10 = c1 := rd_more (a := 6) (b := 4) (by omega) R0 R1 hc1
  have HE := Lib.hid E1
  have HS := Lib.hid h
  obtain ⟨av, hav⟩ : ∃ av, 8 * xs.length - (8 * q + 2) = av := ⟨_, rfl⟩
  have HA := h.avail hav
  have hk : (10 : Int) ≤ av := by omega
  obtain ⟨n, hn⟩ : ∃ n, xs.length = n := ⟨_, rfl⟩
  rw [hn] at g0 hfit hfew
  have HN := Lib.hid hn
  have HF := Lib.hid hfit
  have qn : (q : Int) ≤ 300 := by omega
  have q0 : (q : Int) < n := by omega
  have q1 : (q : Int) + 1 < n := by omega
  clear h hav hn hfit hx0 hx1 ha0 ha1 R0 R1 E1 hc1
  have hdr := drewN_set
  have hss1 := set_twice' S 1
  have hss2 := set_twice' S 2
  go_enter Tryz.func227, Tryz.ntmps227
  go_wp2_with fail
  refine HA.out.mono ?_
  rintro e wx ⟨rfl, n1, rfl⟩
  go_wp2_with fail
  go_quiet (fail)
  go_wp2_with fail
  refine wp_loop_rounds 1 ?_
  rw [rounds_succ]
  go_wp2_with fail
  go_quiet (fail)
  go_wp2_with fail
  go_ret2
  exact ⟨by rw [HE.out]; rfl, HS.out.next ((((HS.out.st.set 2 _).set 1 _).set 2 _).drewN _) (by rw [show (8 * q + 2 + 10) / 8 = q + 1 by omega, show (8 * q + 2 + 10) % 8 = 4 by omega]; simp [Int.add_assoc] <;> omega) ((((HS.out.ar.set_other hSD _).set_other hSD _).set_other hSD _).drewN _) (by rw [HN.out]; exact HF.out), (((((Kept.refl [S] w).setCell (p := ⟨S, 2, none⟩) (.inl (by simp)) _).setCell (p := ⟨S, 1, none⟩) (.inl (by simp)) _).setCell (p := ⟨S, 2, none⟩) (.inl (by simp)) _).drewN _)⟩
theorem read_2_11 {w : World} {S D : Nat} {xs : List Nat} {q : Nat} (h : BS w S D xs (8 * q + 2)) (hfit : 8 * q + 2 + 11 ≤ 8 * xs.length) : ReadOk w S D xs (8 * q + 2) 11 := by
  obtain ⟨g0, g1, g2, f1, f2⟩ := h.heads (by decide)
  have hSD := h.ne
  have hDS := h.ne.symm
  have hfew := h.few
  obtain ⟨b0, hx0, hb0, d0, e0⟩ := h.byte (q) (by omega)
  obtain ⟨b1, hx1, hb1, d1, e1⟩ := h.byte (q + 1) (by omega)
  obtain ⟨a0, ha0⟩ : ∃ a, b0 / 2 ^ 0 % 2 ^ 6 = a := ⟨_, rfl⟩
  have la0 : a0 < 64 := part_lt ha0 rfl
  have A0 := and_part0 63 (by decide) rfl hb0 ha0
  have u0 : (a0 : Int) < 64 := by omega
  have R0 := rd_part (p := 8 * q + 2) (o := 2) (by omega) hx0 (by decide) ha0
  obtain ⟨a1, ha1⟩ : ∃ a, b1 / 2 ^ 3 % 2 ^ 5 = a := ⟨_, rfl⟩
  have la1 : a1 < 32 := part_lt ha1 rfl
  have A1 := and_part 248 8 (by decide) rfl rfl hb1 ha1
  have S1 : (a1 : Int) * 8 / 8 = a1 := by omega
  have u1 : (a1 : Int) < 32 := by omega
  have R1 := rd_part (p := 8 * q + 2 + 6) (o := 0) (by omega) hx1 (by decide) ha1
  obtain ⟨c1, hc1⟩ : ∃ c, a0 * 32 + a1 = c := ⟨_, rfl⟩
  have O1 := or_more 5 32 rfl hc1 rfl la1 (by decide) (by omega)
  have v1 : (c1 : Int) < 2048 := by omega
  have E1 : rd (byteBits xs) (8 * q + 2) 11 = c1 := rd_more (a := 6) (b := 5) (by omega) R0 R1 hc1
  have HE := Lib.hid E1
  have HS := Lib.hid h
  obtain ⟨av, hav⟩ : ∃ av, 8 * xs.length - (8 * q + 2) = av := ⟨_, rfl⟩
  have HA := h.avail hav
  have hk : (11 : Int) ≤ av := by omega
  obtain ⟨n, hn⟩ : ∃ n, xs.length = n := ⟨_, rfl⟩
  rw [hn] at g0 hfit hfew
  have HN := Lib.hid hn
  have HF := Lib.hid hfit
  have qn : (q : Int) ≤ 300 := by omega
  have q0 : (q : Int) < n := by omega
  have q1 : (q : Int) + 1 < n := by omega
  clear h hav hn hfit hx0 hx1 ha0 ha1 R0 R1 E1 hc1
  have hdr := drewN_set
  have hss1 := set_twice' S 1
  have hss2 := set_twice' S 2
  go_enter Tryz.func227, Tryz.ntmps227
  go_wp2_with fail
  refine HA.out.mono ?_
  rintro e wx ⟨rfl, n1, rfl⟩
  go_wp2_with fail
  go_quiet (fail)
  go_wp2_with fail
  refine wp_loop_rounds 1 ?_
  rw [rounds_succ]
  go_wp2_with fail
  go_quiet (fail)
  go_wp2_with fail
  go_ret2
  exact ⟨by rw [HE.out]; rfl, HS.out.next ((((HS.out.st.set 2 _).set 1 _).set 2 _).drewN _) (by rw [show (8 * q + 2 + 11) / 8 = q + 1 by omega, show (8 * q + 2 + 11) % 8 = 5 by omega]; simp [Int.add_assoc] <;> omega) ((((HS.out.ar.set_other hSD _).set_other hSD _).set_other hSD _).drewN _) (by rw [HN.out]; exact HF.out), (((((Kept.refl [S] w).setCell (p := ⟨S, 2, none⟩) (.inl (by simp)) _).setCell (p := ⟨S, 1, none⟩) (.inl (by simp)) _).setCell (p := ⟨S, 2, none⟩) (.inl (by simp)) _).drewN _)⟩
theorem read_3_4 {w : World} {S D : Nat} {xs : List Nat} {q : Nat} (h : BS w S D xs (8 * q + 3)) (hfit : 8 * q + 3 + 4 ≤ 8 * xs.length) : ReadOk w S D xs (8 * q + 3) 4 := by
  obtain ⟨g0, g1, g2, f1, f2⟩ := h.heads (by decide)
  have hSD := h.ne
  have hDS := h.ne.symm
  have hfew := h.few
  obtain ⟨b0, hx0, hb0, d0, e0⟩ := h.byte (q) (by omega)
  obtain ⟨a0, ha0⟩ : ∃ a, b0 / 2 ^ 1 % 2 ^ 4 = a := ⟨_, rfl⟩
  have la0 : a0 < 16 := part_lt ha0 rfl
  have A0 := and_part 30 2 (by decide) rfl rfl hb0 ha0
  have S0 : (a0 : Int) * 2 / 2 = a0 := by omega
  have u0 : (a0 : Int) < 16 := by omega
  have R0 := rd_part (p := 8 * q + 3) (o := 3) (by omega) hx0 (by decide) ha0
  have HE := Lib.hid R0
  have HS := Lib.hid h
  obtain ⟨av, hav⟩ : ∃ av, 8 * xs.length - (8 * q + 3) = av := ⟨_, rfl⟩
  have HA := h.avail hav
  have hk : (4 : Int) ≤ av := by omega
  obtain ⟨n, hn⟩ : ∃ n, xs.length = n := ⟨_, rfl⟩
  rw [hn] at g0 hfit hfew
  have HN := Lib.hid hn
  have HF := Lib.hid hfit
  have qn : (q : Int) ≤ 300 := by omega
  have q0 : (q : Int) < n := by omega
  clear h hav hn hfit hx0 ha0 R0
  have hdr := drewN_set
  have hss1 := set_twice' S 1
  have hss2 := set_twice' S 2
  go_enter Tryz.func227, Tryz.ntmps227
  go_wp2_with fail
  refine HA.out.mono ?_
  rintro e wx ⟨rfl, n1, rfl⟩
  go_wp2_with fail
  go_quiet (fail)
  go_wp2_with fail
  go_ret2
  exact ⟨by rw [HE.out]; rfl, HS.out.next ((HS.out.st.set 2 _).drewN _) (by rw [show (8 * q + 3 + 4) / 8 = q + 0 by omega, show (8 * q + 3 + 4) % 8 = 7 by omega]; simp [Int.add_assoc] <;> omega) ((HS.out.ar.set_other hSD _).drewN _) (by rw [HN.out]; exact HF.out), (((Kept.refl [S] w).setCell (p := ⟨S, 2, none⟩) (.inl (by simp)) _).drewN _)⟩
theorem read_3_6 {w : World} {S D : Nat} {xs : List Nat} {q : Nat} (h : BS w S D xs (8 * q + 3)) (hfit : 8 * q + 3 + 6 ≤ 8 * xs.length) : ReadOk w S D xs (8 * q + 3) 6 := by
  obtain ⟨g0, g1, g2, f1, f2⟩ := h.heads (by decide)
  have hSD := h.ne
  have hDS := h.ne.symm
  have hfew := h.few
  obtain ⟨b0, hx0, hb0, d0, e0⟩ := h.byte (q) (by omega)
  obtain ⟨b1, hx1, hb1, d1, e1⟩ := h.byte (q + 1) (by omega)
  obtain ⟨a0, ha0⟩ : ∃ a, b0 / 2 ^ 0 % 2 ^ 5 = a := ⟨_, rfl⟩
  have la0 : a0 < 32 := part_lt ha0 rfl
  have A0 := and_part0 31 (by decide) rfl hb0 ha0
  have u0 : (a0 : Int) < 32 := by omega
  have R0 := rd_part (p := 8 * q + 3) (o := 3) (by omega) hx0 (by decide) ha0
  obtain ⟨a1, ha1⟩ : ∃ a, b1 / 2 ^ 7 % 2 ^ 1 = a := ⟨_, rfl⟩
  have la1 : a1 < 2 := part_lt ha1 rfl
  have A1 := and_part 128 128 (by decide) rfl rfl hb1 ha1
  have S1 : (a1 : Int) * 128 / 128 = a1 := by omega
  have u1 : (a1 : Int) < 2 := by omega
  have R1 := rd_part (p := 8 * q + 3 + 5) (o := 0) (by omega) hx1 (by decide) ha1
  obtain ⟨c1, hc1⟩ : ∃ c, a0 * 2 + a1 = c := ⟨_, rfl⟩
  have O1 := or_more 1 2 rfl hc1 rfl la1 (by decide) (by omega)
  have v1 : (c1 : Int) < 64 := by omega
  have E1 : rd (byteBits xs) (8 * q + 3) 6 = c1 := rd_more (a := 5) (b := 1) (by omega) R0 R1 hc1
  have HE := Lib.hid E1
  have HS := Lib.hid h
  obtain ⟨av, hav⟩ : ∃ av, 8 * xs.length - (8 * q + 3) = av := ⟨_, rfl⟩
  have HA := h.avail hav
  have hk : (6 : Int) ≤ av := by omega
  obtain ⟨n, hn⟩ : ∃ n, xs.length = n := ⟨_, rfl⟩
  rw [hn] at g0 hfit hfew
  have HN := Lib.hid hn
  have HF := Lib.hid hfit
  have qn : (q : Int) ≤ 300 := by omega
  have q0 : (q : Int) < n := by omega
  have q1 : (q : Int) + 1 < n := by omega
  clear h hav hn hfit hx0 hx1 ha0 ha1 R0 R1 E1 hc1
  have hdr := drewN_set
  have hss1 := set_twice' S 1
  have hss2 := set_twice' S 2
  go_enter Tryz.func227, Tryz.ntmps227
  go_wp2_with fail
  refine HA.out.mono ?_
  rintro e wx ⟨rfl, n1, rfl⟩
  go_wp2_with fail
  go_quiet (fail)
  go_wp2_with fail
  refine wp_loop_rounds 1 ?_
  rw [rounds_succ]
  go_wp2_with fail
  go_quiet (fail)
  go_wp2_with fail
  go_ret2
  exact ⟨by rw [HE.out]; rfl, HS.out.next ((((HS.out.st.set 2 _).set 1 _).set 2 _).drewN _) (by rw [show (8 * q + 3 + 6) / 8 = q + 1 by omega, show (8 * q + 3 + 6) % 8 = 1 by omega]; simp [Int.add_assoc] <;> omega) ((((HS.out.ar.set_other hSD _).set_other hSD _).set_other hSD _).drewN _) (by rw [HN.out]; exact HF.out), (((((Kept.refl [S] w).setCell (p := ⟨S, 2, none⟩) (.inl (by simp)) _).setCell (p := ⟨S, 1, none⟩) (.inl (by simp)) _).setCell (p := ⟨S, 2, none⟩) (.inl (by simp)) _).drewN _)⟩
theorem read_3_7 {w : World} {S D : Nat} {xs : List Nat} {q : Nat} (h : BS w S D xs (8 * q + 3)) (hfit : 8 * q + 3 + 7 ≤ 8 * xs.length) : ReadOk w S D xs (8 * q + 3) 7 := by
  obtain ⟨g0, g1, g2, f1, f2⟩ := h.heads (by decide)
  have hSD := h.ne
  have hDS := h.ne.symm
  have hfew := h.few
  obtain ⟨b0, hx0, hb0, d0, e0⟩ := h.byte (q) (by omega)
  obtain ⟨b1, hx1, hb1, d1, e1⟩ := h.byte (q + 1) (by omega)
  obtain ⟨a0, ha0⟩ : ∃ a, b0 / 2 ^ 0 % 2 ^ 5 = a := ⟨_, rfl⟩
  have la0 : a0 < 32 := part_lt ha0 rfl
  have A0 := and_part0 31 (by decide) rfl hb0 ha0
  have u0 : (a0 : Int) < 32 := by omega
  have R0 := rd_part (p := 8 * q + 3) (o := 3) (by omega) hx0 (by decide) ha0
  obtain ⟨a1, ha1⟩ : ∃ a, b1 / 2 ^ 6 % 2 ^ 2 = a := ⟨_, rfl⟩
  have la1 : a1 < 4 := part_lt ha1 rfl
  have A1 := and_part 192 64 (by decide) rfl rfl hb1 ha1
  have S1 : (a1 : Int) * 64 / 64 = a1 := by omega
  have u1 : (a1 : Int) < 4 := by omega
  have R1 := rd_part (p := 8 * q + 3 + 5) (o := 0) (by omega) hx1 (by decide) ha1
  obtain ⟨c1, hc1⟩ : ∃ c, a0 * 4 + a1 = c := ⟨_, rfl⟩
  have O1 := or_more 2 4 rfl hc1 rfl la1 (by decide) (by omega)
  have v1 : (c1 : Int) < 128 := by omega
  have E1 : rd (byteBits xs) (8 * q + 3) 7 = c1 := rd_more (a := 5) (b := 2) (by omega) R0 R1 hc1
  have HE := Lib.hid E1
  have HS := Lib.hid h
  obtain ⟨av, hav⟩ : ∃ av, 8 * xs.length - (8 * q + 3) = av := ⟨_, rfl⟩
  have HA := h.avail hav
  have hk : (7 : Int) ≤ av := by omega
  obtain ⟨n, hn⟩ : ∃ n, xs.length = n := ⟨_, rfl⟩
  rw [hn] at g0 hfit hfew
  have HN := Lib.hid hn
  have HF := Lib.hid hfit
  have qn : (q : Int) ≤ 300 := by omega
  have q0 : (q : Int) < n := by omega
  have q1 : (q : Int) + 1 < n := by omega
  clear h hav hn hfit hx0 hx1 ha0 ha1 R0 R1 E1 hc1
  have hdr := drewN_set
  have hss1 := set_twice' S 1
  have hss2 := set_twice' S 2
  go_enter Tryz.func227, Tryz.ntmps227
  go_wp2_with fail
  refine HA.out.mono ?_
  rintro e wx ⟨rfl, n1, rfl⟩
  go_wp2_with fail
  go_quiet (fail)
  go_wp2_with fail
  refine wp_loop_rounds 1 ?_
  rw [rounds_succ]
  go_wp2_with fail
  go_quiet (fail)
  go_wp2_with fail
  go_ret2
  exact ⟨by rw [HE.out]; rfl, HS.out.next ((((HS.out.st.set 2 _).set 1 _).set 2 _).drewN _) (by rw [show (8 * q + 3 + 7) / 8 = q + 1 by omega, show (8 * q + 3 + 7) % 8 = 2 by omega]; simp [Int.add_assoc] <;> omega) ((((HS.out.ar.set_other hSD _).set_other hSD _).set_other hSD _).drewN _) (by rw [HN.out]; exact HF.out), (((((Kept.refl [S] w).setCell (p := ⟨S, 2, none⟩) (.inl (by simp)) _).setCell (p := ⟨S, 1, none⟩) (.inl (by simp)) _).setCell (p := ⟨S, 2, none⟩) (.inl (by simp)) _).drewN _)⟩
theorem read_3_8 {w : World} {S D : Nat} {xs : List Nat} {q : Nat} (h : BS w S D xs (8 * q + 3)) (hfit : 8 * q + 3 + 8 ≤ 8 * xs.length) : ReadOk w S D xs (8 * q + 3) 8 := by
  obtain ⟨g0, g1, g2, f1, f2⟩ := h.heads (by decide)
  have hSD := h.ne
  have hDS := h.ne.symm
  have hfew := h.few
  obtain ⟨b0, hx0, hb0, d0, e0⟩ := h.byte (q) (by omega)
  obtain ⟨b1, hx1, hb1, d1, e1⟩ := h.byte (q + 1) (by omega)
  obtain ⟨a0, ha0⟩ : ∃ a, b0 / 2 ^ 0 % 2 ^ 5 = a := ⟨_, rfl⟩
  have la0 : a0 < 32 := part_lt ha0 rfl
  have A0 := and_part0 31 (by decide) rfl hb0 ha0
  have u0 : (a0 : Int) < 32 := by omega
  have R0 := rd_part (p := 8 * q + 3) (o := 3) (by omega) hx0 (by decide) ha0
  obtain ⟨a1, ha1⟩ : ∃ a, b1 / 2 ^ 5 % 2 ^ 3 = a := ⟨_, rfl⟩
  have la1 : a1 < 8 := part_lt ha1 rfl
  have A1 := and_part 224 32 (by decide) rfl rfl hb1 ha1
  have S1 : (a1 : Int) * 32 / 32 = a1 := by omega
  have u1 : (a1 : Int) < 8 := by omega
  have R1 := rd_part (p := 8 * q + 3 + 5) (o := 0) (by omega) hx1 (by decide) ha1
  obtain ⟨c1, hc1⟩ : ∃ c, a0 * 8 + a1 = c := ⟨_, rfl⟩
  have O1 := or_more 3 8 rfl hc1 rfl la1 (by decide) (by omega)
  have v1 : (c1 : Int) < 256 := by omega
  have E1 : rd (byteBits xs) (8 * q + 3) 8 = c1 := rd_more (a := 5) (b := 3) (by omega) R0 R1 hc1
  have HE := Lib.hid E1
  have HS := Lib.hid h
  obtain ⟨av, hav⟩ : ∃ av, 8 * xs.length - (8 * q + 3) = av := ⟨_, rfl⟩
  have HA := h.avail hav
  have hk : (8 : Int) ≤ av := by omega
  obtain ⟨n, hn⟩ : ∃ n, xs.length = n := ⟨_, rfl⟩
  rw [hn] at g0 hfit hfew
  have HN := Lib.hid hn
  have HF := Lib.hid hfit
  have qn : (q : Int) ≤ 300 := by omega
  have q0 : (q : Int) < n := by omega
  have q1 : (q : Int) + 1 < n := by omega
  clear h hav hn hfit hx0 hx1 ha0 ha1 R0 R1 E1 hc1
  have hdr := drewN_set
  have hss1 := set_twice' S 1
  have hss2 := set_twice' S 2
  go_enter Tryz.func227, Tryz.ntmps227
  go_wp2_with fail
  refine HA.out.mono ?_
  rintro e wx ⟨rfl, n1, rfl⟩
  go_wp2_with fail
  go_quiet (fail)
  go_wp2_with fail
  refine wp_loop_rounds 1 ?_
  rw [rounds_succ]
  go_wp2_with fail
  go_quiet (fail)
  go_wp2_with fail
  go_ret2
  exact ⟨by rw [HE.out]; rfl, HS.out.next ((((HS.out.st.set 2 _).set 1 _).set 2 _).drewN _) (by rw [show (8 * q + 3 + 8) / 8 = q + 1 by omega, show (8 * q + 3 + 8) % 8 = 3 by omega]; simp [Int.add_assoc] <;> omega) ((((HS.out.ar.set_other hSD _).set_other hSD _).set_other hSD _).drewN _) (by rw [HN.out]; exact HF.out), (((((Kept.refl [S] w).setCell (p := ⟨S, 2, none⟩) (.inl (by simp)) _).setCell (p := ⟨S, 1, none⟩) (.inl (by simp)) _).setCell (p := ⟨S, 2, none⟩) (.inl (by simp)) _).drewN _)⟩
theorem read_3_9 {w : World} {S D : Nat} {xs : List Nat} {q : Nat} (h : BS w S D xs (8 * q + 3)) (hfit : 8 * q + 3 + 9 ≤ 8 * xs.length) : ReadOk w S D xs (8 * q + 3) 9 := by
  obtain ⟨g0, g1, g2, f1, f2⟩ := h.heads (by decide)
  have hSD := h.ne
  have hDS := h.ne.symm
  have hfew := h.few
  obtain ⟨b0, hx0, hb0, d0, e0⟩ := h.byte (q) (by omega)
  obtain ⟨b1, hx1, hb1, d1, e1⟩ := h.byte (q + 1) (by omega)
  obtain ⟨a0, ha0⟩ : ∃ a, b0 / 2 ^ 0 % 2 ^ 5 = a := ⟨_, rfl⟩
  have la0 : a0 < 32 := part_lt ha0 rfl
  have A0 := and_part0 31 (by decide) rfl hb0 ha0
  have u0 : (a0 : Int) < 32 := by omega
  have R0 := rd_part (p := 8 * q + 3) (o := 3) (by omega) hx0 (by decide) ha0
  obtain ⟨a1, ha1⟩ : ∃ a, b1 / 2 ^ 4 % 2 ^ 4 = a := ⟨_, rfl⟩
  have la1 : a1 < 16 := part_lt ha1 rfl
  have A1 := and_part 240 16 (by decide) rfl rfl hb1 ha1
  have S1 : (a1 : Int) * 16 / 16 = a1 := by omega
  have u1 : (a1 : Int) < 16 := by omega
  have R1 := rd_part (p := 8 * q + 3 + 5) (o := 0) (by omega) hx1 (by decide) ha1
  obtain ⟨c1, hc1⟩ : ∃ c, a0 * 16 + a1 = c := ⟨_, rfl⟩
  have O1 := or_more 4 16 rfl hc1 rfl la1 (by decide) (by omega)
  have v1 : (c1 : Int) < 512 := by omega
  have E1 : rd (byteBits xs) (8 * q + 3) 9 = c1 := rd_more (a := 5) (b := 4) (by omega) R0 R1 hc1
  have HE := Lib.hid E1
  have HS := Lib.hid h
  obtain ⟨av, hav⟩ : ∃ av, 8 * xs.length - (8 * q + 3) = av := ⟨_, rfl⟩
  have HA := h.avail hav
  have hk : (9 : Int) ≤ av := by omega
  obtain ⟨n, hn⟩ : ∃ n, xs.length = n := ⟨_, rfl⟩
  rw [hn] at g0 hfit hfew
  have HN := Lib.hid hn
  have HF := Lib.hid hfit
  have qn : (q : Int) ≤ 300 := by omega
  have q0 : (q : Int) < n := by omega
  have q1 : (q : Int) + 1 < n := by omega
  clear h hav hn hfit hx0 hx1 ha0 ha1 R0 R1 E1 hc1
  have hdr := drewN_set
  have hss1 := set_twice' S 1
  have hss2 := set_twice' S 2
  go_enter Tryz.func227, Tryz.ntmps227
  go_wp2_with fail
  refine HA.out.mono ?_
  rintro e wx ⟨rfl, n1, rfl⟩
  go_wp2_with fail
  go_quiet (fail)
  go_wp2_with fail
  refine wp_loop_rounds 1 ?_
  rw [rounds_succ]
  go_wp2_with fail
  go_quiet (fail)
  go_wp2_with fail
  go_ret2
  exact ⟨by rw [HE.out]; rfl, HS.out.next ((((HS.out.st.set 2 _).set 1 _).set 2 _).drewN _) (by rw [show (8 * q + 3 + 9) / 8 = q + 1 by omega, show (8 * q + 3 + 9) % 8 = 4 by omega]; simp [Int.add_assoc] <;> omega) ((((HS.out.ar.set_other hSD _).set_other hSD _).set_other hSD _).drewN _) (by rw [HN.out]; exact HF.out), (((((Kept.refl [S] w).setCell (p := ⟨S, 2, none⟩) (.inl (by simp)) _).setCell (p := ⟨S, 1, none⟩) (.inl (by simp)) _).setCell (p := ⟨S, 2, none⟩) (.inl (by simp)) _).drewN _)⟩
theorem read_3_10 {w : World} {S D : Nat} {xs : List Nat} {q : Nat} (h : BS w S D xs (8 * q + 3)) (hfit : 8 * q + 3 + 10 ≤ 8 * xs.length) : ReadOk w S D xs (8 * q + 3) 10 := by
  obtain ⟨g0, g1, g2, f1, f2⟩ := h.heads (by decide)
  have hSD := h.ne
  have hDS := h.ne.symm
  have hfew := h.few
  obtain ⟨b0, hx0, hb0, d0, e0⟩ := h.byte (q) (by omega)
  obtain ⟨b1, hx1, hb1, d1, e1⟩ := h.byte (q + 1) (by omega)
  obtain ⟨a0, ha0⟩ : ∃ a, b0 / 2 ^ 0 % 2 ^ 5 = a := ⟨_, rfl⟩
  have la0 : a0 < 32 := part_lt ha0 rfl
  have A0 := and_part0 31 (by decide) rfl hb0 ha0
  have u0 : (a0 : Int) < 32 := by omega
  have R0 := rd_part (p := 8 * q + 3) (o := 3) (by omega) hx0 (by decide) ha0
  obtain ⟨a1, ha1⟩ : ∃ a, b1 / 2 ^ 3 % 2 ^ 5 = a := ⟨_, rfl⟩
  have la1 : a1 < 32 := part_lt ha1 rfl
  have A1 := and_part 248 8 (by decide) rfl rfl hb1 ha1
  have S1 : (a1 : Int) * 8 / 8 = a1 := by omega
  have u1 : (a1 : Int) < 32 := by omega
  have R1 := rd_part (p := 8 * q + 3 + 5) (o := 0) (by omega) hx1 (by decide) ha1
  obtain ⟨c1, hc1⟩ : ∃ c, a0 * 32 + a1 = c := ⟨_, rfl⟩
  have O1 := or_more 5 32 rfl hc1 rfl la1 (by decide) (by omega)
  have v1 : (c1 : Int) < 1024 := by omega
  have E1 : rd (byteBits xs) (8 * q + 3) 10 = c1 := rd_more (a := 5) (b := 5) (by omega) R0 R1 hc1
  have HE := Lib.hid E1
  have HS := Lib.hid h
  obtain ⟨av, hav⟩ : ∃ av, 8 * xs.length - (8 * q + 3) = av := ⟨_, rfl⟩
  have HA := h.avail hav
  have hk : (10 : Int) ≤ av := by omega
  obtain ⟨n, hn⟩ : ∃ n, xs.length = n := ⟨_, rfl⟩
  rw [hn] at g0 hfit hfew
  have HN := Lib.hid hn
  have HF := Lib.hid hfit
  have qn : (q : Int) ≤ 300 := by omega
  have q0 : (q : Int) < n := by omega
  have q1 : (q : Int) + 1 < n := by omega
  clear h hav hn hfit hx0 hx1 ha0 ha1 R0 R1 E1 hc1
  have hdr := drewN_set
  have hss1 := set_twice' S 1
  have hss2 := set_twice' S 2
  go_enter Tryz.func227, Tryz.ntmps227
  go_wp2_with fail
  refine HA.out.mono ?_
  rintro e wx ⟨rfl, n1, rfl⟩
  go_wp2_with fail
  go_quiet (fail)
  go_wp2_with fail
  refine wp_loop_rounds 1 ?_
  rw [rounds_succ]
  go_wp2_with fail
  go_quiet (fail)
  go_wp2_with fail
  go_ret2
  exact ⟨by rw [HE.out]; rfl, HS.out.next ((((HS.out.st.set 2 _).set 1 _).set 2 _).drewN _) (by rw [show (8 * q + 3 + 10) / 8 = q + 1 by omega, show (8 * q + 3 + 10) % 8 = 5 by omega]; simp [Int.add_assoc] <;> omega) ((((HS.out.ar.set_other hSD _).set_other hSD _).set_other hSD _).drewN _) (by rw [HN.out]; exact HF.out), (((((Kept.refl [S] w).setCell (p := ⟨S, 2, none⟩) (.inl (by simp)) _).setCell (p := ⟨S, 1, none⟩) (.inl (by simp)) _).setCell (p := ⟨S, 2, none⟩) (.inl (by simp)) _).drewN _)⟩
theorem read_3_11 {w : World} {S D : Nat} {xs : List Nat} {q : Nat} (h : BS w S D xs (8 * q + 3)) (hfit : 8 * q + 3 + 11 ≤ 8 * xs.length) : ReadOk w S D xs (8 * q + 3) 11 := by
  obtain ⟨g0, g1, g2, f1, f2⟩ := h.heads (by decide)
  have hSD := h.ne
  have hDS := h.ne.symm
  have hfew := h.few
  obtain ⟨b0, hx0, hb0, d0, e0⟩ := h.byte (q) (by omega)
  obtain ⟨b1, hx1, hb1, d1, e1⟩ := h.byte (q + 1) (by omega)
  obtain ⟨a0, ha0⟩ : ∃ a, b0 / 2 ^ 0 % 2 ^ 5 = a := ⟨_, rfl⟩
  have la0 : a0 < 32 := part_lt ha0 rfl
  have A0 := and_part0 31 (by decide) rfl hb0 ha0
  have u0 : (a0 : Int) < 32 := by omega
  have R0 := rd_part (p := 8 * q + 3) (o := 3) (by omega) hx0 (by decide) ha0
  obtain ⟨a1, ha1⟩ : ∃ a, b1 / 2 ^ 2 % 2 ^ 6 = a := ⟨_, rfl⟩
  have la1 : a1 < 64 := part_lt ha1 rfl
  have A1 := and_part 252 4 (by decide) rfl rfl hb1 ha1
  have S1 : (a1 : Int) * 4 / 4 = a1 := by omega
  have u1 : (a1 : Int) < 64 := by omega
  have R1 := rd_part (p := 8 * q + 3 + 5) (o := 0) (by omega) hx1 (by decide) ha1
  obtain ⟨c1, hc1⟩ : ∃ c, a0 * 64 + a1 = c := ⟨_, rfl⟩
  have O1 := or_more 6 64 rfl hc1 rfl la1 (by decide) (by omega)
  have v1 : (c1 : Int) < 2048 := by omega
  have E1 : rd (byteBits xs) (8 * q + 3) 11 = c1 := rd_more (a := 5) (b := 6) (by omega) R0 R1 hc1
  have HE := Lib.hid E1
  have HS := Lib.hid h
  obtain ⟨av, hav⟩ : ∃ av, 8 * xs.length - (8 * q + 3) = av := ⟨_, rfl⟩
  have HA := h.avail hav
  have hk : (11 : Int) ≤ av := by omega
  obtain ⟨n, hn⟩ : ∃ n, xs.length = n := ⟨_, rfl⟩
  rw [hn] at g0 hfit hfew
  have HN := Lib.hid hn
  have HF := Lib.hid hfit
  have qn : (q : Int) ≤ 300 := by omega
  have q0 : (q : Int) < n := by omega
  have q1 : (q : Int) + 1 < n := by omega
  clear h hav hn hfit hx0 hx1 ha0 ha1 R0 R1 E1 hc1
  have hdr := drewN_set
  have hss1 := set_twice' S 1
  have hss2 := set_twice' S 2
  go_enter Tryz.func227, Tryz.ntmps227
  go_wp2_with fail
  refine HA.out.mono ?_
  rintro e wx ⟨rfl, n1, rfl⟩
  go_wp2_with fail
  go_quiet (fail)
  go_wp2_with fail
  refine wp_loop_rounds 1 ?_
  rw [rounds_succ]
  go_wp2_with fail
  go_quiet (fail)
  go_wp2_with fail
  go_ret2
  exact ⟨by rw [HE.out]; rfl, HS.out.next ((((HS.out.st.set 2 _).set 1 _).set 2 _).drewN _) (by rw [show (8 * q + 3 + 11) / 8 = q + 1 by omega, show (8 * q + 3 + 11) % 8 = 6 by omega]; simp [Int.add_assoc] <;> omega) ((((HS.out.ar.set_other hSD _).set_other hSD _).set_other hSD _).drewN _) (by rw [HN.out]; exact HF.out), (((((Kept.refl [S] w).setCell (p := ⟨S, 2, none⟩) (.inl (by simp)) _).setCell (p := ⟨S, 1, none⟩) (.inl (by simp)) _).setCell (p := ⟨S, 2, none⟩) (.inl (by simp)) _).drewN _)⟩
end
end Go.Proofs.YtplpafbkalkchaaGreatDoor
