/- Walks: bits are read out of a source, part c. Walks: bits are read out of a source, part d. -/
import Derived.Test.YtplpafbkalkchaaGreatDoorW37
namespace Go.Proofs.YtplpafbkalkchaaGreatDoor
open Go Go.RowKit Go.Proofs
set_option linter.all false

section
set_option maxRecDepth 100000
set_option maxHeartbeats 1000000
theorem read_4_4 {w : World} {S D : Nat} {xs : List Nat} {q : Nat} (h : BS w S D xs (8 * q + 4)) (hfit : 8 * q + 4 + 4 ≤ 8 * xs.length) : ReadOk w S D xs (8 * q + 4) 4 := by
  obtain ⟨g0, g1, g2, f1, f2⟩ := h.heads (by decide)
  have hSD := h.ne
  have hDS := h.ne.symm
  have hfew := h.few
  obtain ⟨b0, hx0, hb0, d0, e0⟩ := h.byte (q) (by omega)
  obtain ⟨a0, ha0⟩ : ∃ a, b0 / 2 ^ 0 % 2 ^ 4 = a := ⟨_, rfl⟩
  have la0 : a0 < 16 := part_lt ha0 rfl
  have A0 := and_part0 15 (by decide) rfl hb0 ha0
  have u0 : (a0 : Int) < 16 := by omega
  have R0 := rd_part (p := 8 * q + 4) (o := 4) (by omega) hx0 (by decide) ha0
  have HE := Lib.hid R0
  have HS := Lib.hid h
  obtain ⟨av, hav⟩ : ∃ av, 8 * xs.length - (8 * q + 4) = av := ⟨_, rfl⟩
  have HA := h.avail hav
  have hk : (4 : Int) ≤ av := by omega
  obtain ⟨n, hn⟩ : ∃ n, xs.length = n := ⟨_, rfl⟩
  rw [hn] at g0 hfit hfew
  have HN := Lib.hid hn
  have HF := Lib.hid hfit
  have qn : (q : Int) ≤ 300 := by omega
  have q0 : (q : Int) < n := by omega
  clear h hav hn hfit hx0 ha0 R0
  have hdr := drewN_set
  have hss1 := set_twice' S 1
  have hss2 := set_twice' S 2
  go_enter Tryz.func227, Tryz.ntmps227
  go_wp2_with fail
  refine HA.out.mono ?_
  rintro e wx ⟨rfl, n1, rfl⟩
  go_wp2_with fail
  go_quiet (fail)
  go_wp2_with fail
  go_ret2
  exact ⟨by rw [HE.out]; rfl, HS.out.next (((HS.out.st.set 2 _).set 1 _).drewN _) (by rw [show (8 * q + 4 + 4) / 8 = q + 1 by omega, show (8 * q + 4 + 4) % 8 = 0 by omega]; simp [Int.add_assoc] <;> omega) (((HS.out.ar.set_other hSD _).set_other hSD _).drewN _) (by rw [HN.out]; exact HF.out), ((((Kept.refl [S] w).setCell (p := ⟨S, 2, none⟩) (.inl (by simp)) _).setCell (p := ⟨S, 1, none⟩) (.inl (by simp)) _).drewN _)⟩
theorem read_4_6 {w : World} {S D : Nat} {xs : List Nat} {q : Nat} (h : BS w S D xs (8 * q + 4)) (hfit : 8 * q + 4 + 6 ≤ 8 * xs.length) : ReadOk w S D xs (8 * q + 4) 6 := by
  obtain ⟨g0, g1, g2, f1, f2⟩ := h.heads (by decide)
  have hSD := h.ne
  have hDS := h.ne.symm
  have hfew := h.few
  obtain ⟨b0, hx0, hb0, d0, e0⟩ := h.byte (q) (by omega)
  obtain ⟨b1, hx1, hb1, d1, e1⟩ := h.byte (q + 1) (by omega)
  obtain ⟨a0, ha0⟩ : ∃ a, b0 / 2 ^ 0 % 2 ^ 4 = a := ⟨_, rfl⟩
  have la0 : a0 < 16 := part_lt ha0 rfl
  have A0 := and_part0 15 (by decide) rfl hb0 ha0
  have u0 : (a0 : Int) < 16 := by omega
  have R0 := rd_part (p := 8 * q + 4) (o := 4) (by omega) hx0 (by decide) ha0
  obtain ⟨a1, ha1⟩ : ∃ a, b1 / 2 ^ 6 % 2 ^ 2 = a := ⟨_, rfl⟩
  have la1 : a1 < 4 := part_lt ha1 rfl
  have A1 := and_part 192 64 (by decide) rfl rfl hb1 ha1
  have S1 : (a1 : Int) * 64 / 64 = a1 := by omega
  have u1 : (a1 : Int) < 4 := by omega
  have R1 := rd_part (p := 8 * q + 4 + 4) (o := 0) (by omega) hx1 (by decide) ha1
  obtain ⟨c1, hc1⟩ : ∃ c, a0 * 4 + a1 = c := ⟨_, rfl⟩
  have O1 := or_more 2 4 rfl hc1 rfl la1 (by decide) (by omega)
  have v1 : (c1 : Int) < 64 := by omega
  have E1 : rd (byteBits xs) (8 * q + 4) 6 = c1 := rd_more (a := 4) (b := 2) (by omega) R0 R1 hc1
  have HE := Lib.hid E1
  have HS := Lib.hid h
  obtain ⟨av, hav⟩ : ∃ av, 8 * xs.length - (8 * q + 4) = av := ⟨_, rfl⟩
  have HA := h.avail hav
  have hk : (6 : Int) ≤ av := by omega
  obtain ⟨n, hn⟩ : ∃ n, xs.length = n := ⟨_, rfl⟩
  rw [hn] at g0 hfit hfew
  have HN := Lib.hid hn
  have HF := Lib.hid hfit
  have qn : (q : Int) ≤ 300 := by omega
  have q0 : (q : Int) < n := by omega
  have q1 : (q : Int) + 1 < n := by omega
  clear h hav hn hfit hx0 hx1 ha0 ha1 R0 R1 E1 hc1
  have hdr := drewN_set
  have hss1 := set_twice' S 1
  have hss2 := set_twice' S 2
  go_enter Tryz.func227, Tryz.ntmps227
  go_wp2_with fail
  refine HA.out.mono ?_
  rintro e wx ⟨rfl, n1, rfl⟩
  go_wp2_with fail
  go_quiet (fail)
  go_wp2_with fail
  refine wp_loop_rounds 1 ?_
  rw [rounds_succ]
  go_wp2_with fail
  go_quiet (fail)
  go_wp2_with fail
  go_ret2
  exact ⟨by rw [HE.out]; rfl, HS.out.next ((((HS.out.st.set 2 _).set 1 _).set 2 _).drewN _) (by rw [show (8 * q + 4 + 6) / 8 = q + 1 by omega, show (8 * q + 4 + 6) % 8 = 2 by omega]; simp [Int.add_assoc] <;> omega) ((((HS.out.ar.set_other hSD _).set_other hSD _).set_other hSD _).drewN _) (by rw [HN.out]; exact HF.out), (((((Kept.refl [S] w).setCell (p := ⟨S, 2, none⟩) (.inl (by simp)) _).setCell (p := ⟨S, 1, none⟩) (.inl (by simp)) _).setCell (p := ⟨S, 2, none⟩) (.inl (by simp)) _).drewN _)⟩
theorem read_4_7 {w : World} {S D : Nat} {xs : List Nat} {q : Nat} (h : BS w S D xs (8 * q + 4)) (hfit : 8 * q + 4 + 7 ≤ 8 * xs.length) : ReadOk w S D xs (8 * q + 4) 7 := by
  obtain ⟨g0, g1, g2, f1, f2⟩ := h.heads (by decide)
  have hSD := h.ne
  have hDS := h.ne.symm
  have hfew := h.few
  obtain ⟨b0, hx0, hb0, d0, e0⟩ := h.byte (q) (by omega)
  obtain ⟨b1, hx1, hb1, d1, e1⟩ := h.byte (q + 1) (by omega)
  obtain ⟨a0, ha0⟩ : ∃ a, b0 / 2 ^ 0 % 2 ^ 4 = a := ⟨_, rfl⟩
  have la0 : a0 < 16 := part_lt ha0 rfl
  have A0 := and_part0 15 (by decide) rfl hb0 ha0
  have u0 : (a0 : Int) < 16 := by omega
  have R0 := rd_part (p := 8 * q + 4) (o := 4) (by omega) hx0 (by decide) ha0
  obtain ⟨a1, ha1⟩ : ∃ a, b1 / 2 ^ 5 % 2 ^ 3 = a := ⟨_, rfl⟩
  have la1 : a1 < 8 := part_lt ha1 rfl
  have A1 := and_part 224 32 (by decide) rfl rfl hb1 ha1
  have S1 : (a1 : Int) * 32 / 32 = a1 := by omega
  have u1 : (a1 : Int) < 8 := by omega
  have R1 := rd_part (p := 8 * q + 4 + 4) (o := 0) (by omega) hx1 (by decide) ha1
  obtain ⟨c1, hc1⟩ : ∃ c, a0 * 8 + a1 = c := ⟨_, rfl⟩
  have O1 := or_more 3 8 rfl hc1 rfl la1 (by decide) (by omega)
  have v1 : (c1 : Int) < 128 := by omega
  have E1 : rd (byteBits xs) (8 * q + 4) 7 = c1 := rd_more (a := 4) (b := 3) (by omega) R0 R1 hc1
  have HE := Lib.hid E1
  have HS := Lib.hid h
  obtain ⟨av, hav⟩ : ∃ av, 8 * xs.length - (8 * q + 4) = av := ⟨_, rfl⟩
  have HA := h.avail hav
  have hk : (7 : Int) ≤ av := by omega
  obtain ⟨n, hn⟩ : ∃ n, xs.length = n := ⟨_, rfl⟩
  rw [hn] at g0 hfit hfew
  have HN := Lib.hid hn
  have HF := Lib.hid hfit
  have qn : (q : Int) ≤ 300 := by omega
  have q0 : (q : Int) < n := by omega
  have q1 : (q : Int) + 1 < n := by omega
  clear h hav hn hfit hx0 hx1 ha0 ha1 R0 R1 E1 hc1
  have hdr := drewN_set
  have hss1 := set_twice' S 1
  have hss2 := set_twice' S 2
  go_enter Tryz.func227, Tryz.ntmps227
  go_wp2_with fail
  refine HA.out.mono ?_
  rintro e wx ⟨rfl, n1, rfl⟩
  go_wp2_with fail
  go_quiet (fail)
  go_wp2_with fail
  refine wp_loop_rounds 1 ?_
  rw [rounds_succ]
  go_wp2_with fail
  go_quiet (fail)
  go_wp2_with fail
  go_ret2
  exact ⟨by rw [HE.out]; rfl, HS.out.next ((((HS.out.st.set 2 _).set 1 _).set 2 _).drewN _) (by rw [show (8 * q + 4 + 7) / 8 = q + 1 by omega, show (8 * q + 4 + 7) % 8 = 3 by omega]; simp [Int.add_assoc] <;> omega) ((((HS.out.ar.set_other hSD _).set_other hSD _).set_other hSD _).drewN _) (by rw [HN.out]; exact HF.out), (((((Kept.refl [S] w).setCell (p := ⟨S, 2, none⟩) (.inl (by simp)) _).setCell (p := ⟨S, 1, none⟩) (.inl (by simp)) _).setCell (p := ⟨S, 2, none⟩) (.inl (by simp)) _).drewN _)⟩
theorem read_4_8 {w : World} {S D : Nat} {xs : List Nat} {q : Nat} (h : BS w S D xs (8 * q + 4)) (hfit : 8 * q + 4 + 8 ≤ 8 * xs.length) : ReadOk w S D xs (8 * q + 4) 8 := by
  obtain ⟨g0, g1, g2, f1, f2⟩ := h.heads (by decide)
  have hSD := h.ne
  have hDS := h.ne.symm
  have hfew := h.few
  obtain ⟨b0, hx0, hb0, d0, e0⟩ := h.byte (q) (by omega)
  obtain ⟨b1, hx1, hb1, d1, e1⟩ := h.byte (q + 1) (by omega)
  obtain ⟨a0, ha0⟩ : ∃ a, b0 / 2 ^ 0 % 2 ^ 4 = a := ⟨_, rfl⟩
  have la0 : a0 < 16 := part_lt ha0 rfl
  have A0 := and_part0 15 (by decide) rfl hb0 ha0
  have u0 : (a0 : Int) < 16 := by omega
  have R0 := rd_part (p := 8 * q + 4) (o := 4) (by omega) hx0 (by decide) ha0
  obtain ⟨a1, ha1⟩ : ∃ a, b1 / 2 ^ 4 % 2 ^ 4 = a := ⟨_, rfl⟩
  have la1 : a1 < 16 := part_lt ha1 rfl
  have A1 := and_part 240 16 (by decide) rfl rfl hb1 ha1
  have S1 : (a1 : Int) * 16 / 16 = a1 := by omega
  have u1 : (a1 : Int) < 16 := by omega
  have R1 := rd_part (p := 8 * q + 4 + 4) (o := 0) (by omega) hx1 (by decide) ha1
  obtain ⟨c1, hc1⟩ : ∃ c, a0 * 16 + a1 = c := ⟨_, rfl⟩
  have O1 := or_more 4 16 rfl hc1 rfl la1 (by decide) (by omega)
  have v1 : (c1 : Int) < 256 := by omega
  have E1 : rd (byteBits xs) (8 * q + 4) 8 = c1 := rd_more (a := 4) (b := 4) (by omega) R0 R1 hc1
  have HE := Lib.hid E1
  have HS := Lib.hid h
  obtain ⟨av, hav⟩ : ∃ av, 8 * xs.length - (8 * q + 4) = av := ⟨_, rfl⟩
  have HA := h.avail hav
  have hk : (8 : Int) ≤ av := by omega
  obtain ⟨n, hn⟩ : ∃ n, xs.length = n := ⟨_, rfl⟩
  rw [hn] at g0 hfit hfew
  have HN := Lib.hid hn
  have HF := Lib.hid hfit
  have qn : (q : Int) ≤ 300 := by omega
  have q0 : (q : Int) < n := by omega
  have q1 : (q : Int) + 1 < n := by omega
  clear h hav hn hfit hx0 hx1 ha0 ha1 R0 R1 E1 hc1
  have hdr := drewN_set
  have hss1 := set_twice' S 1
  have hss2 := set_twice' S 2
  go_enter Tryz.func227, Tryz.ntmps227
  go_wp2_with fail
  refine HA.out.mono ?_
  rintro e wx ⟨rfl, n1, rfl⟩
  go_wp2_with fail
  go_quiet (fail)
  go_wp2_with fail
  refine wp_loop_rounds 1 ?_
  rw [rounds_succ]
  go_wp2_with fail
  go_quiet (fail)
  go_wp2_with fail
  go_ret2
  exact ⟨by rw [HE.out]; rfl, HS.out.next ((((HS.out.st.set 2 _).set 1 _).set 2 _).drewN _) (by rw [show (8 * q + 4 + 8) / 8 = q + 1 by omega, show (8 * q + 4 + 8) % 8 = 4 by omega]; simp [Int.add_assoc] <;> omega) ((((HS.out.ar.set_other hSD _).set_other hSD _).set_other hSD _).drewN _) (by rw [HN.out]; exact HF.out), (((((Kept.refl [S] w).setCell (p := ⟨S, 2, none⟩) (.inl (by simp)) _).setCell (p := ⟨S, 1, none⟩) (.inl (by simp)) _).setCell (p := ⟨S, 2, none⟩) (.inl (by simp)) _).drewN _)⟩
theorem read_4_9 {w : World} {S D : Nat} {xs : List Nat} {q : Nat} (h : BS w S D xs (8 * q + 4)) (hfit : 8 * q + 4 + 9 ≤ 8 * xs.length) : ReadOk w S D xs (8 * q + 4) 9 := by
  obtain ⟨g0, g1, g2, f1, f2⟩ := h.heads (by decide)
  have hSD := h.ne
  have hDS := h.ne.symm
  have hfew := h.few
  obtain ⟨b0, hx0, hb0, d0, e0⟩ := h.byte (q) (by omega)
  obtain ⟨b1, hx1, hb1, d1, e1⟩ := h.byte (q + 1) (by omega)
  obtain ⟨a0, ha0⟩ : ∃ a, b0 / 2 ^ 0 % 2 ^ 4 = a := ⟨_, rfl⟩
  have la0 : a0 < 16 := part_lt ha0 rfl
  have A0 := and_part0 15 (by decide) rfl hb0 ha0
  have u0 : (a0 : Int) < 16 := by omega
  have R0 := rd_part (p := 8 * q + 4) (o := 4) (by omega) hx0 (by decide) ha0
  obtain ⟨a1, ha1⟩ : ∃ a, b1 / 2 ^ 3 % 2 ^ 5 = a := ⟨_, rfl⟩
  have la1 : a1 < 32 := part_lt ha1 rfl
  have A1 := and_part 248 8 (by decide) rfl rfl hb1 ha1
  have S1 : (a1 : Int) * 8 / 8 = a1 := by omega
  have u1 : (a1 : Int) < 32 := by omega
  have R1 := rd_part (p := 8 * q + 4 + 4) (o := 0) (by omega) hx1 (by decide) ha1
  obtain ⟨c1, hc1⟩ : ∃ c, a0 * 32 + a1 = c := ⟨_, rfl⟩
  have O1 := or_more 5 32 rfl hc1 rfl la1 (by decide) (by omega)
  have v1 : (c1 : Int) < 512 := by omega
  have E1 : rd (byteBits xs) (8 * q + 4) 9 = c1 := rd_more (a := 4) (b := 5) (by omega) R0 R1 hc1
  have HE := Lib.hid E1
  have HS := Lib.hid h
  obtain ⟨av, hav⟩ : ∃ av, 8 * xs.length - (8 * q + 4) = av := ⟨_, rfl⟩
  have HA := h.avail hav
  have hk : (9 : Int) ≤ av := by omega
  obtain ⟨n, hn⟩ : ∃ n, xs.length = n := ⟨_, rfl⟩
  rw [hn] at g0 hfit hfew
  have HN := Lib.hid hn
  have HF := Lib.hid hfit
  have qn : (q : Int) ≤ 300 := by omega
  have q0 : (q : Int) < n := by omega
  have q1 : (q : Int) + 1 < n := by omega
  clear h hav hn hfit hx0 hx1 ha0 ha1 R0 R1 E1 hc1
  have hdr := drewN_set
  have hss1 := set_twice' S 1
  have hss2 := set_twice' S 2
  go_enter Tryz.func227, Tryz.ntmps227
  go_wp2_with fail
  refine HA.out.mono ?_
  rintro e wx ⟨rfl, n1, rfl⟩
  go_wp2_with fail
  go_quiet (fail)
  go_wp2_with fail
  refine wp_loop_rounds 1 ?_
  rw [rounds_succ]
  go_wp2_with fail
  go_quiet (fail)
  go_wp2_with fail
  go_ret2
  exact ⟨by rw [HE.out]; rfl, HS.out.next ((((HS.out.st.set 2 _).set 1 _).set 2 _).drewN _) (by rw [show (8 * q + 4 + 9) / 8 = q + 1 by omega, show (8 * q + 4 + 9) % 8 = 5 by omega]; simp [Int.add_assoc] <;> omega) ((((HS.out.ar.set_other hSD _).set_other hSD _).set_other hSD _).drewN _) (by rw [HN.out]; exact HF.out), (((((Kept.refl [S] w).setCell (p := ⟨S, 2, none⟩) (.inl (by simp)) _).setCell (p := ⟨S, 1, none⟩) (.inl (by simp)) _).setCell (p := ⟨S, 2, none⟩) (.inl (by simp)) _).drewN _)⟩
theorem read_4_10 {w : World} {S D : Nat} {xs : List Nat} {q : Nat} (h : BS w S D xs (8 * q + 4)) (hfit : 8 * q + 4 + 10 ≤ 8 * xs.length) : ReadOk w S D xs (8 * q + 4) 10 := by
  obtain ⟨g0, g1, g2, f1, f2⟩ := h.heads (by decide)
  have hSD := h.ne
  have hDS := h.ne.symm
  have hfew := h.few
  obtain ⟨b0, hx0, hb0, d0, e0⟩ := h.byte (q) (by omega)
  obtain ⟨b1, hx1, hb1, d1, e1⟩ := h.byte (q + 1) (by omega)
  obtain ⟨a0, ha0⟩ : ∃ a, b0 / 2 ^ 0 % 2 ^ 4 = a := ⟨_, rfl⟩
  have la0 : a0 < 16 := part_lt ha0 rfl
  have A0 := and_part0 15 (by decide) rfl hb0 ha0
  have u0 : (a0 : Int) < 16 := by omega
  have R0 := rd_part (p := 8 * q + 4) (o := 4) (by omega) hx0 (by decide) ha0
  obtain ⟨a1, ha1⟩ : ∃ a, b1 / 2 ^ 2 % 2 ^ 6 = a := ⟨_, rfl⟩
  have la1 : a1 < 64 := part_lt ha1 rfl
  have A1 := and_part 252 4 (by decide) rfl rfl hb1 ha1
  have S1 : (a1 : Int) * 4 / 4 = a1 := by omega
  have u1 : (a1 : Int) < 64 := by omega
  have R1 := rd_part (p := 8 * q + 4 + 4) (o := 0) (by omega) hx1 (by decide) ha1
  obtain ⟨c1, hc1⟩ : ∃ c, a0 * 64 + a1 = c := ⟨_, rfl⟩
  have O1 := or_more 6 64 rfl hc1 rfl la1 (by decide) (by omega)
  have v1 : (c1 : Int) < 1024 := by omega
  have E1 : rd (byteBits xs) (8 * q + 4) 10 = c1 := rd_more (a := 4) (b := 6) (by omega) R0 R1 hc1
  have HE := Lib.hid E1
  have HS := Lib.hid h
  obtain ⟨av, hav⟩ : ∃ av, 8 * xs.length - (8 * q + 4) = av := ⟨_, rfl⟩
  have HA := h.avail hav
  have hk : (10 : Int) ≤ av := by omega
  obtain ⟨n, hn⟩ : ∃ n, xs.length = n := ⟨_, rfl⟩
  rw [hn] at g0 hfit hfew
  have HN := Lib.hid hn
  have HF := Lib.hid hfit
  have qn : (q : Int) ≤ 300 := by omega
  have q0 : (q : Int) < n := by omega
  have q1 : (q : Int) + 1 < n := by omega
  clear h hav hn hfit hx0 hx1 ha0 ha1 R0 R1 E1 hc1
  have hdr := drewN_set
  have hss1 := set_twice' S 1
  have hss2 := set_twice' S 2
  go_enter Tryz.func227, Tryz.ntmps227
  go_wp2_with fail
  refine HA.out.mono ?_
  rintro e wx ⟨rfl, n1, rfl⟩
  go_wp2_with fail
  go_quiet (fail)
  go_wp2_with fail
  refine wp_loop_rounds 1 ?_
  rw [rounds_succ]
  go_wp2_with fail
  go_quiet (fail)
  go_wp2_with fail
  go_ret2
  exact ⟨by rw [HE.out]; rfl, HS.out.next ((((HS.out.st.set 2 _).set 1 _).set 2 _).drewN _) (by rw [show (8 * q + 4 + 10) / 8 = q + 1 by omega, show (8 * q + 4 + 10) % 8 = 6 by omega]; simp [Int.add_assoc] <;> omega) ((((HS.out.ar.set_other hSD _).set_other hSD _).set_other hSD _).drewN _) (by rw [HN.out]; exact HF.out), (((((Kept.refl [S] w).setCell (p := ⟨S, 2, none⟩) (.inl (by simp)) _).setCell (p := ⟨S, 1, none⟩) (.inl (by simp)) _).setCell (p := ⟨S, 2, none⟩) (.inl (by simp)) _).drewN _)⟩
theorem read_4_11 {w : World} {S D : Nat} {xs : List Nat} {q : Nat} (h : BS w S D xs (8 * q + 4)) (hfit : 8 * q + 4 + 11 ≤ 8 * xs.length) : ReadOk w S D xs (8 * q + 4) 11 := by
  obtain ⟨g0, g1, g2, f1, f2⟩ := h.heads (by decide)
  have hSD := h.ne
  have hDS := h.ne.symm
  have hfew := h.few
  obtain ⟨b0, hx0, hb0, d0, e0⟩ := h.byte (q) (by omega)
  obtain ⟨b1, hx1, hb1, d1, e1⟩ := h.byte (q + 1) (by omega)
  obtain ⟨a0, ha0⟩ : ∃ a, b0 / 2 ^ 0 % 2 ^ 4 = a := ⟨_, rfl⟩
  have la0 : a0 < 16 := part_lt ha0 rfl
  have A0 := and_part0 15 (by decide) rfl hb0 ha0
  have u0 : (a0 : Int) < 16 := by omega
  have R0 := rd_part (p := 8 * q + 4) (o := 4) (by omega) hx0 (by decide) ha0
  obtain ⟨a1, ha1⟩ : ∃ a, b1 / 2 ^ 1 % 2 ^ 7 = a := ⟨_, rfl⟩
  have la1 : a1 < 128 := part_lt ha1 rfl
  have A1 := and_part 254 2 (by decide) rfl rfl hb1 ha1
  have S1 : (a1 : Int) * 2 / 2 = a1 := by omega
  have u1 : (a1 : Int) < 128 := by omega
  have R1 := rd_part (p := 8 * q + 4 + 4) (o := 0) (by omega) hx1 (by decide) ha1
  obtain ⟨c1, hc1⟩ : ∃ c, a0 * 128 + a1 = c := ⟨_, rfl⟩
  have O1 := or_more 7 128 rfl hc1 rfl la1 (by decide) (by omega)
  have v1 : (c1 : Int) < 2048 := by omega
  have E1 : rd (byteBits xs) (8 * q + 4) 11 = c1 := rd_more (a := 4) (b := 7) (by omega) R0 R1 hc1
  have HE := Lib.hid E1
  have HS := Lib.hid h
  obtain ⟨av, hav⟩ : ∃ av, 8 * xs.length - (8 * q + 4) = av := ⟨_, rfl⟩
  have HA := h.avail hav
  have hk : (11 : Int) ≤ av := by omega
  obtain ⟨n, hn⟩ : ∃ n, xs.length = n := ⟨_, rfl⟩
  rw [hn] at g0 hfit hfew
  have HN := Lib.hid hn
  have HF := Lib.hid hfit
  have qn : (q : Int) ≤ 300 := by omega
  have q0 : (q : Int) < n := by omega
  have q1 : (q : Int) + 1 < n := by omega
  clear h hav hn hfit hx0 hx1 ha0 ha1 R0 R1 E1 hc1
  have hdr := drewN_set
  have hss1 := set_twice' S 1
  have hss2 := set_twice' S 2
  go_enter Tryz.func227, Tryz.ntmps227
  go_wp2_with fail
  refine HA.out.mono ?_
  rintro e wx ⟨rfl, n1, rfl⟩
  go_wp2_with fail
  go_quiet (fail)
  go_wp2_with fail
  refine wp_loop_rounds 1 ?_
  rw [rounds_succ]
  go_wp2_with fail
  go_quiet (fail)
  go_wp2_with fail
  go_ret2
  exact ⟨by rw [HE.out]; rfl, HS.out.next ((((HS.out.st.set 2 _).set 1 _).set 2 _).drewN _) (by rw [show (8 * q + 4 + 11) / 8 = q + 1 by omega, show (8 * q + 4 + 11) % 8 = 7 by omega]; simp [Int.add_assoc] <;> omega) ((((HS.out.ar.set_other hSD _).set_other hSD _).set_other hSD _).drewN _) (by rw [HN.out]; exact HF.out), (((((Kept.refl [S] w).setCell (p := ⟨S, 2, none⟩) (.inl (by simp)) _).setCell (p := ⟨S, 1, none⟩) (.inl (by simp)) _).setCell (p := ⟨S, 2, none⟩) (.inl (by simp)) _).drewN _)⟩
theorem read_5_4 {w : World} {S D : Nat} {xs : List Nat} {q : Nat} (h : BS w S D xs (8 * q + 5)) (hfit : 8 * q + 5 + 4 ≤ 8 * xs.length) : ReadOk w S D xs (8 * q + 5) 4 := by
  obtain ⟨g0, g1, g2, f1, f2⟩ := h.heads (by decide)
  have hSD := h.ne
  have hDS := h.ne.symm
  have hfew := h.few
  obtain ⟨b0, hx0, hb0, d0, e0⟩ := h.byte (q) (by omega)
  obtain ⟨b1, hx1, hb1, d1, e1⟩ := h.byte (q + 1) (by omega)
  obtain ⟨a0, ha0⟩ : ∃ a, b0 / 2 ^ 0 % 2 ^ 3 = a := ⟨_, rfl⟩
  have la0 : a0 < 8 := part_lt ha0 rfl
  have A0 := and_part0 7 (by decide) rfl hb0 ha0
  have u0 : (a0 : Int) < 8 := by omega
  have R0 := rd_part (p := 8 * q + 5) (o := 5) (by omega) hx0 (by decide) ha0
  obtain ⟨a1, ha1⟩ : ∃ a, b1 / 2 ^ 7 % 2 ^ 1 = a := ⟨_, rfl⟩
  have la1 : a1 < 2 := part_lt ha1 rfl
  have A1 := and_part 128 128 (by decide) rfl rfl hb1 ha1
  have S1 : (a1 : Int) * 128 / 128 = a1 := by omega
  have u1 : (a1 : Int) < 2 := by omega
  have R1 := rd_part (p := 8 * q + 5 + 3) (o := 0) (by omega) hx1 (by decide) ha1
  obtain ⟨c1, hc1⟩ : ∃ c, a0 * 2 + a1 = c := ⟨_, rfl⟩
  have O1 := or_more 1 2 rfl hc1 rfl la1 (by decide) (by omega)
  have v1 : (c1 : Int) < 16 := by omega
  have E1 : rd (byteBits xs) (8 * q + 5) 4 = c1 := rd_more (a := 3) (b := 1) (by omega) R0 R1 hc1
  have HE := Lib.hid E1
  have HS := Lib.hid h
  obtain ⟨av, hav⟩ : ∃ av, 8 * xs.length - (8 * q + 5) = av := ⟨_, rfl⟩
  have HA := h.avail hav
  have hk : (4 : Int) ≤ av := by omega
  obtain ⟨n, hn⟩ : ∃ n, xs.length = n := ⟨_, rfl⟩
  rw [hn] at g0 hfit hfew
  have HN := Lib.hid hn
  have HF := Lib.hid hfit
  have qn : (q : Int) ≤ 300 := by omega
  have q0 : (q : Int) < n := by omega
  have q1 : (q : Int) + 1 < n := by omega
  clear h hav hn hfit hx0 hx1 ha0 ha1 R0 R1 E1 hc1
  have hdr := drewN_set
  have hss1 := set_twice' S 1
  have hss2 := set_twice' S 2
  go_enter Tryz.func227, Tryz.ntmps227
  go_wp2_with fail
  refine HA.out.mono ?_
  rintro e wx ⟨rfl, n1, rfl⟩
  go_wp2_with fail
  go_quiet (fail)
  go_wp2_with fail
  refine wp_loop_rounds 1 ?_
  rw [rounds_succ]
  go_wp2_with fail
  go_quiet (fail)
  go_wp2_with fail
  go_ret2
  exact ⟨by rw [HE.out]; rfl, HS.out.next ((((HS.out.st.set 2 _).set 1 _).set 2 _).drewN _) (by rw [show (8 * q + 5 + 4) / 8 = q + 1 by omega, show (8 * q + 5 + 4) % 8 = 1 by omega]; simp [Int.add_assoc] <;> omega) ((((HS.out.ar.set_other hSD _).set_other hSD _).set_other hSD _).drewN _) (by rw [HN.out]; exact HF.out), (((((Kept.refl [S] w).setCell (p := ⟨S, 2, none⟩) (.inl (by simp)) _).setCell (p := ⟨S, 1, none⟩) (.inl (by simp)) _).setCell (p := ⟨S, 2, none⟩) (.inl (by simp)) _).drewN _)⟩
theorem read_5_6 {w : World} {S D : Nat} {xs : List Nat} {q : Nat} (h : BS w S D xs (8 * q + 5)) (hfit : 8 * q + 5 + 6 ≤ 8 * xs.length) : ReadOk w S D xs (8 * q + 5) 6 := by
  obtain ⟨g0, g1, g2, f1, f2⟩ := h.heads (by decide)
  have hSD := h.ne
  have hDS := h.ne.symm
  have hfew := h.few
  obtain ⟨b0, hx0, hb0, d0, e0⟩ := h.byte (q) (by omega)
  obtain ⟨b1, hx1, hb1, d1, e1⟩ := h.byte (q + 1) (by omega)
  obtain ⟨a0, ha0⟩ : ∃ a, b0 / 2 ^ 0 % 2 ^ 3 = a := ⟨_, rfl⟩
  have la0 : a0 < 8 := part_lt ha0 rfl
  have A0 := and_part0 7 (by decide) rfl hb0 ha0
  have u0 : (a0 : Int) < 8 := by omega
  have R0 := rd_part (p := 8 * q + 5) (o := 5) (by omega) hx0 (by decide) ha0
  obtain ⟨a1, ha1⟩ : ∃ a, b1 / 2 ^ 5 % 2 ^ 3 = a := ⟨_, rfl⟩
  have la1 : a1 < 8 := part_lt ha1 rfl
  have A1 := and_part 224 32 (by decide) rfl rfl hb1 ha1
  have S1 : (a1 : Int) * 32 / 32 = a1 := by omega
  have u1 : (a1 : Int) < 8 := by omega
  have R1 := rd_part (p := 8 * q + 5 + 3) (o := 0) (by omega) hx1 (by decide) ha1
  obtain ⟨c1, hc1⟩ : ∃ c, a0 * 8 + a1 = c := ⟨_, rfl⟩
  have O1 := or_more 3 8 rfl hc1 rfl la1 (by decide) (by omega)
  have v1 : (c1 : Int) < 64 := by omega
  have E1 : rd (byteBits xs) (8 * q + 5) 6 = c1 := rd_more (a := 3) (b := 3) (by omega) R0 R1 hc1
  have HE := Lib.hid E1
  have HS := Lib.hid h
  obtain ⟨av, hav⟩ : ∃ av, 8 * xs.length - (8 * q + 5) = av := ⟨_, rfl⟩
  have HA := h.avail hav
  have hk : (6 : Int) ≤ av := by omega
  obtain ⟨n, hn⟩ : ∃ n, xs.length = n := ⟨_, rfl⟩
  rw [hn] at g0 hfit hfew
  have HN := Lib.hid hn
  have HF := Lib.hid hfit
  have qn : (q : Int) ≤ 300 := by omega
  have q0 : (q : Int) < n := by omega
  have q1 : (q : Int) + 1 < n := by omega
  clear h hav hn hfit hx0 hx1 ha0 ha1 R0 R1 E1 hc1
  have hdr := drewN_set
  have hss1 := set_twice' S 1
  have hss2 := set_twice' S 2
  go_enter Tryz.func227, Tryz.ntmps227
  go_wp2_with fail
  refine HA.out.mono ?_
  rintro e wx ⟨rfl, n1, rfl⟩
  go_wp2_with fail
  go_quiet (fail)
  go_wp2_with fail
  refine wp_loop_rounds 1 ?_
  rw [rounds_succ]
  go_wp2_with fail
  go_quiet (fail)
  go_wp2_with fail
  go_ret2
  exact ⟨by rw [HE.out]; rfl, HS.out.next ((((HS.out.st.set 2 _).set 1 _).set 2 _).drewN _) (by rw [show (8 * q + 5 + 6) / 8 = q + 1 by omega, show (8 * q + 5 + 6) % 8 = 3 by omega]; simp [Int.add_assoc] <;> omega) ((((HS.out.ar.set_other hSD _).set_other hSD _).set_other hSD _).drewN _) (by rw [HN.out]; exact HF.out), (((((Kept.refl [S] w).setCell (p := ⟨S, 2, none⟩) (.inl (by simp)) _).setCell (p := ⟨S, 1, none⟩) (.inl (by simp)) _).setCell (p := ⟨S, 2, none⟩) (.inl (by simp)) _).drewN _)⟩
theorem read_5_7 {w : World} {S D : Nat} {xs : List Nat} {q : Nat} (h : BS w S D xs (8 * q + 5)) (hfit : 8 * q + 5 + 7 ≤ 8 * xs.length) : ReadOk w S D xs (8 * q + 5) 7 := by
  obtain ⟨g0, g1, g2, f1, f2⟩ := h.heads (by decide)
  have hSD := h.ne
  have hDS := h.ne.symm
  have hfew := h.few
  obtain ⟨b0, hx0, hb0, d0, e0⟩ := h.byte (q) (by omega)
  obtain ⟨b1, hx1, hb1, d1, e1⟩ := h.byte (q + 1) (by omega)
  obtain ⟨a0, ha0⟩ : ∃ a, b0 / 2 ^ 0 % 2 ^ 3 = a := ⟨_, rfl⟩
  have la0 : a0 < 8 := part_lt ha0 rfl
  have A0 := and_part0 7 (by decide) rfl hb0 ha0
  have u0 : (a0 : Int) < 8 := by omega
  have R0 := rd_part (p := 8 * q + 5) (o := 5) (by omega) hx0 (by decide) ha0
  obtain ⟨a1, ha1⟩ : ∃ a, b1 / 2 ^ 4 % 2 ^ 4 = a := ⟨_, rfl⟩
  have la1 : a1 < 16 := part_lt ha1 rfl
  have A1 := and_part 240 16 (by decide) rfl rfl hb1 ha1
  have S1 : (a1 : Int) * 16 / 16 = a1 := by omega
  have u1 : (a1 : Int) < 16 := by omega
  have R1 := rd_part (p := 8 * q + 5 + 3) (o := 0) (by omega) hx1 (by decide) ha1
  obtain ⟨c1, hc1⟩ : ∃ c, a0 * 16 + a1 = c := ⟨_, rfl⟩
  have O1 := or_more 4 16 rfl hc1 rfl la1 (by decide) (by omega)
  have v1 : (c1 : Int) < 128 := by omega
  have E1 : rd (byteBits xs) (8 * q + 5) 7 = c1 := rd_more (a := 3) (b := 4) (by omega) R0 R1 hc1
  have HE := Lib.hid E1
  have HS := Lib.hid h
  obtain ⟨av, hav⟩ : ∃ av, 8 * xs.length - (8 * q + 5) = av := ⟨_, rfl⟩
  have HA := h.avail hav
  have hk : (7 : Int) ≤ av := by omega
  obtain ⟨n, hn⟩ : ∃ n, xs.length = n := ⟨_, rfl⟩
  rw [hn] at g0 hfit hfew
  have HN := Lib.hid hn
  have HF := Lib.hid hfit
  have qn : (q : Int) ≤ 300 := by omega
  have q0 : (q : Int) < n := by omega
  have q1 : (q : Int) + 1 < n := by omega
  clear h hav hn hfit hx0 hx1 ha0 ha1 R0 R1 E1 hc1
  have hdr := drewN_set
  have hss1 := set_twice' S 1
  have hss2 := set_twice' S 2
  go_enter Tryz.func227, Tryz.ntmps227
  go_wp2_with fail
  refine HA.out.mono ?_
  rintro e wx ⟨rfl, n1, rfl⟩
  go_wp2_with fail
  go_quiet (fail)
  go_wp2_with fail
  refine wp_loop_rounds 1 ?_
  rw [rounds_succ]
  go_wp2_with fail
  go_quiet (fail)
  go_wp2_with fail
  go_ret2
  exact ⟨by rw [HE.out]; rfl, HS.out.next ((((HS.out.st.set 2 _).set 1 _).set 2 _).drewN _) (by rw [show (8 * q + 5 + 7) / 8 = q + 1 by omega, show (8 * q + 5 + 7) % 8 = 4 by omega]; simp [Int.add_assoc] <;> omega) ((((HS.out.ar.set_other hSD _).set_other hSD _).set_other hSD _).drewN _) (by rw [HN.out]; exact HF.out), (((((Kept.refl [S] w).setCell (p := ⟨S, 2, none⟩) (.inl (by simp)) _).setCell (p := ⟨S, 1, none⟩) (.inl (by simp)) _).setCell (p := ⟨S, 2, none⟩) (.inl (by simp)) _).drewN _)⟩
theorem read_5_8 {w : World} {S D : Nat} {xs : List Nat} {q : Nat} (h : BS w S D xs (8 * q + 5)) (hfit : 8 * q + 5 + 8 ≤ 8 * xs.length) : ReadOk w S D xs (8 * q + 5) 8 := by
  obtain ⟨g0, g1, g2, f1, f2⟩ := h.heads (by decide)
  have hSD := h.ne
  have hDS := h.ne.symm
  have hfew := h.few
  obtain ⟨b0, hx0, hb0, d0, e0⟩ := h.byte (q) (by omega)
  obtain ⟨b1, hx1, hb1, d1, e1⟩ := h.byte (q + 1) (by omega)
  obtain ⟨a0, ha0⟩ : ∃ a, b0 / 2 ^ 0 % 2 ^ 3 = a := ⟨_, rfl⟩
  have la0 : a0 < 8 := part_lt ha0 rfl
  have A0 := and_part0 7 (by decide) rfl hb0 ha0
  have u0 : (a0 : Int) < 8 := by omega
  have R0 := rd_part (p := 8 * q + 5) (o := 5) (by omega) hx0 (by decide) ha0
  obtain ⟨a1, ha1⟩ : ∃ a, b1 / 2 ^ 3 % 2 ^ 5 = a := ⟨_, rfl⟩
  have la1 : a1 < 32 := part_lt ha1 rfl
  have A1 := and_part 248 8 (by decide) rfl rfl hb1 ha1
  have S1 : (a1 : Int) * 8 / 8 = a1 := by omega
  have u1 : (a1 : Int) < 32 := by omega
  have R1 := rd_part (p := 8 * q + 5 + 3) (o := 0) (by omega) hx1 (by decide) ha1
  obtain ⟨c1, hc1⟩ : ∃ c, a0 * 32 + a1 = c := ⟨_, rfl⟩
  have O1 := or_more 5 32 rfl hc1 rfl la1 (by decide) (by omega)
  have v1 : (c1 : Int) < 256 := by omega
  have E1 : rd (byteBits xs) (8 * q + 5) 8 = c1 := rd_more (a := 3) (b := 5) (by omega) R0 R1 hc1
  have HE := Lib.hid E1
  have HS := Lib.hid h
  obtain ⟨av, hav⟩ : ∃ av, 8 * xs.length - (8 * q + 5) = av := ⟨_, rfl⟩
  have HA := h.avail hav
  have hk : (8 : Int) ≤ av := by omega
  obtain ⟨n, hn⟩ : ∃ n, xs.length = n := ⟨_, rfl⟩
  rw [hn] at g0 hfit hfew
  have HN := Lib.hid hn
  have HF := Lib.hid hfit
  have qn : (q : Int) ≤ 300 := by omega
  have q0 : (q : Int) < n := by omega
  have q1 : (q : Int) + 1 < n := by omega
  clear h hav hn hfit hx0 hx1 ha0 ha1 R0 R1 E1 hc1
  have hdr := drewN_set
  have hss1 := set_twice' S 1
  have hss2 := set_twice' S 2
  go_enter Tryz.func227, Tryz.ntmps227
  go_wp2_with fail
  refine HA.out.mono ?_
  rintro e wx ⟨rfl, n1, rfl⟩
  go_wp2_with fail
  go_quiet (fail)
  go_wp2_with fail
  refine wp_loop_rounds 1 ?_
  rw [rounds_succ]
  go_wp2_with fail
  go_quiet (fail)
  go_wp2_with fail
  go_ret2
  exact ⟨by rw [HE.out]; rfl, HS.out.next ((((HS.out.st.set 2 _).set 1 _).set 2 _).drewN _) (by rw [show (8 * q + 5 + 8) / 8 = q + 1 by omega, show (8 * q + 5 + 8) % 8 = 5 by omega]; simp [Int.add_assoc] <;> omega) ((((HS.out.ar.set_other hSD _).set_other hSD _).set_other hSD _).drewN _) (by rw [HN.out]; exact HF.out), (((((Kept.refl [S] w).setCell (p := ⟨S, 2, none⟩) (.inl (by simp)) _).setCell (p := ⟨S, 1, none⟩) (.inl (by simp)) _).setCell (p := ⟨S, 2, none⟩) (.inl (by simp)) _).drewN _)⟩
theorem read_5_9 {w : World} {S D : Nat} {xs : List Nat} {q : Nat} (h : BS w S D xs (8 * q + 5)) (hfit : 8 * q + 5 + 9 ≤ 8 * xs.length) : ReadOk w S D xs (8 * q + 5) 9 := by
  obtain ⟨g0, g1, g2, f1, f2⟩ := h.heads (by decide)
  have hSD := h.ne
  have hDS := h.ne.symm
  have hfew := h.few
  obtain ⟨b0, hx0, hb0, d0, e0⟩ := h.byte (q) (by omega)
  obtain ⟨b1, hx1, hb1, d1, e1⟩ := h.byte (q + 1) (by omega)
  obtain ⟨a0, ha0⟩ : ∃ a, b0 / 2 ^ 0 % 2 ^ 3 = a := ⟨_, rfl⟩
  have la0 : a0 < 8 := part_lt ha0 rfl
  have A0 := and_part0 7 (by decide) rfl hb0 ha0
  have u0 : (a0 : Int) < 8 := by omega
  have R0 := rd_part (p := 8 * q + 5) (o := 5) (by omega) hx0 (by decide) ha0
  obtain ⟨a1, ha1⟩ : ∃ a, b1 / 2 ^ 2 % 2 ^ 6 = a := ⟨_, rfl⟩
  have la1 : a1 < 64 := part_lt ha1 rfl
  have A1 := and_part 252 4 (by decide) rfl rfl hb1 ha1
  have S1 : (a1 : Int) * 4 / 4 = a1 := by omega
  have u1 : (a1 : Int) < 64 := by omega
  have R1 := rd_part (p := 8 * q + 5 + 3) (o := 0) (by omega) hx1 (by decide) ha1
  obtain ⟨c1, hc1⟩ : ∃ c, a0 * 64 + a1 = c := ⟨_, rfl⟩
  have O1 := or_more 6 64 rfl hc1 rfl la1 (by decide) (by omega)
  have v1 : (c1 : Int) < 512 := by omega
  have E1 : rd (byteBits xs) (8 * q + 5) 9 = c1 := rd_more (a := 3) (b := 6) (by omega) R0 R1 hc1
  have HE := Lib.hid E1
  have HS := Lib.hid h
  obtain ⟨av, hav⟩ : ∃ av, 8 * xs.length - (8 * q + 5) = av := ⟨_, rfl⟩
  have HA := h.avail hav
  have hk : (9 : Int) ≤ av := by omega
  obtain ⟨n, hn⟩ : ∃ n, xs.length = n := ⟨_, rfl⟩
  rw [hn] at g0 hfit hfew
  have HN := Lib.hid hn
  have HF := Lib.hid hfit
  have qn : (q : Int) ≤ 300 := by omega
  have q0 : (q : Int) < n := by omega
  have q1 : (q : Int) + 1 < n := by omega
  clear h hav hn hfit hx0 hx1 ha0 ha1 R0 R1 E1 hc1
  have hdr := drewN_set
  have hss1 := set_twice' S 1
  have hss2 := set_twice' S 2
  go_enter Tryz.func227, Tryz.ntmps227
  go_wp2_with fail
  refine HA.out.mono ?_
  rintro e wx ⟨rfl, n1, rfl⟩
  go_wp2_with fail
  go_quiet (fail)
  go_wp2_with fail
  refine wp_loop_rounds 1 ?_
  rw [rounds_succ]
  go_wp2_with fail
  go_quiet (fail)
  go_wp2_with fail
  go_ret2
  exact ⟨by rw [HE.out]; rfl, HS.out.next ((((HS.out.st.set 2 _).set 1 _).set 2 _).drewN _) (by rw [show (8 * q + 5 + 9) / 8 = q + 1 by omega, show (8 * q + 5 + 9) % 8 = 6 by omega]; simp [Int.add_assoc] <;> omega) ((((HS.out.ar.set_other hSD _).set_other hSD _).set_other hSD _).drewN _) (by rw [HN.out]; exact HF.out), (((((Kept.refl [S] w).setCell (p := ⟨S, 2, none⟩) (.inl (by simp)) _).setCell (p := ⟨S, 1, none⟩) (.inl (by simp)) _).setCell (p := ⟨S, 2, none⟩) (.inl (by simp)) _).drewN _)⟩
theorem read_5_10 {w : World} {S D : Nat} {xs : List Nat} {q : Nat} (h : BS w S D xs (8 * q + 5)) (hfit : 8 * q + 5 + 10 ≤ 8 * xs.length) : ReadOk w S D xs (8 * q + 5) 10 := by
  obtain ⟨g0, g1, g2, f1, f2⟩ := h.heads (by decide)
  have hSD := h.ne
  have hDS := h.ne.symm
  have hfew := h.few
  obtain ⟨b0, hx0, hb0, d0, e0⟩ := h.byte (q) (by omega)
  obtain ⟨b1, hx1, hb1, d1, e1⟩ := h.byte (q + 1) (by omega)
  obtain ⟨a0, ha0⟩ : ∃ a, b0 / 2 ^ 0 % 2 ^ 3 = a := ⟨_, rfl⟩
  have la0 : a0 < 8 := part_lt ha0 rfl
  have A0 := and_part0 7 (by decide) rfl hb0 ha0
  have u0 : (a0 : Int) < 8 := by omega
  have R0 := rd_part (p := 8 * q + 5) (o := 5) (by omega) hx0 (by decide) ha0
  obtain ⟨a1, ha1⟩ : ∃ a, b1 / 2 ^ 1 % 2 ^ 7 = a := ⟨_, rfl⟩
  have la1 : a1 < 128 := part_lt ha1 rfl
  have A1 := and_part 254 2 (by decide) rfl rfl hb1 ha1
  have S1 : (a1 : Int) * 2 / 2 = a1 := by omega
  have u1 : (a1 : Int) < 128 := by omega
  have R1 := rd_part (p := 8 * q + 5 + 3) (o := 0) (by omega) hx1 (by decide) ha1
  obtain ⟨c1, hc1⟩ : ∃ c, a0 * 128 + a1 = c := ⟨_, rfl⟩
  have O1 := or_more 7 128 rfl hc1 rfl la1 (by decide) (by omega)
  have v1 : (c1 : Int) < 1024 := by omega
  have E1 : rd (byteBits xs) (8 * q + 5) 10 = c1 := rd_more (a := 3) (b := 7) (by omega) R0 R1 hc1
  have HE := Lib.hid E1
  have HS := Lib.hid h
  obtain ⟨av, hav⟩ : ∃ av, 8 * xs.length - (8 * q + 5) = av := ⟨_, rfl⟩
  have HA := h.avail hav
  have hk : (10 : Int) ≤ av := by omega
  obtain ⟨n, hn⟩ : ∃ n, xs.length = n := ⟨_, rfl⟩
  rw [hn] at g0 hfit hfew
  have HN := Lib.hid hn
  have HF := Lib.hid hfit
  have qn : (q : Int) ≤ 300 := by omega
  have q0 : (q : Int) < n := by omega
  have q1 : (q : Int) + 1 < n := by omega
  clear h hav hn hfit hx0 hx1 ha0 ha1 R0 R1 E1 hc1
  have hdr := drewN_set
  have hss1 := set_twice' S 1
  have hss2 := set_twice' S 2
  go_enter Tryz.func227, Tryz.ntmps227
  go_wp2_with fail
  refine HA.out.mono ?_
  rintro e wx ⟨rfl, n1, rfl⟩
  go_wp2_with fail
  go_quiet (fail)
  go_wp2_with fail
  refine wp_loop_rounds 1 ?_
  rw [rounds_succ]
  go_wp2_with fail
  go_quiet (fail)
  go_wp2_with fail
  go_ret2
  exact ⟨by rw [HE.out]; rfl, HS.out.next ((((HS.out.st.set 2 _).set 1 _).set 2 _).drewN _) (by rw [show (8 * q + 5 + 10) / 8 = q + 1 by omega, show (8 * q + 5 + 10) % 8 = 7 by omega]; simp [Int.add_assoc] <;> omega) ((((HS.out.ar.set_other hSD _).set_other hSD _).set_other hSD _).drewN _) (by rw [HN.out]; exact HF.out), (((((Kept.refl [S] w).setCell (p := ⟨S, 2, none⟩) (.inl (by simp)) _).setCell (p := ⟨S, 1, none⟩) (.inl (by simp)) _).setCell (p := ⟨S, 2, none⟩) (.inl (by simp)) _).drewN _)⟩
theorem read_5_11 {w : World} {S D : Nat} {xs : List Nat} {q : Nat} (h : BS w S D xs (8 * q + 5)) (hfit : 8 * q + 5 + 11 ≤ 8 * xs.length) : ReadOk w S D xs (8 * q + 5) 11 := by
  obtain ⟨g0, g1, g2, f1, f2⟩ := h.heads (by decide)
  have hSD := h.ne
  have hDS := h.ne.symm
  have hfew := h.few
  obtain ⟨b0, hx0, hb0, d0, e0⟩ := h.byte (q) (by omega)
  obtain ⟨b1, hx1, hb1, d1, e1⟩ := h.byte (q + 1) (by omega)
  obtain ⟨a0, ha0⟩ : ∃ a, b0 / 2 ^ 0 % 2 ^ 3 = a := ⟨_, rfl⟩
  have la0 : a0 < 8 := part_lt ha0 rfl
  have A0 := and_part0 7 (by decide) rfl hb0 ha0
  have u0 : (a0 : Int) < 8 := by omega
  have R0 := rd_part (p := 8 * q + 5) (o := 5) (by omega) hx0 (by decide) ha0
  obtain ⟨a1, ha1⟩ : ∃ a, b1 / 2 ^ 0 % 2 ^ 8 = a := ⟨_, rfl⟩
  have la1 : a1 < 256 := part_lt ha1 rfl
  have A1 := and_part0 255 (by decide) rfl hb1 ha1
  have u1 : (a1 : Int) < 256 := by omega
  have R1 := rd_part (p := 8 * q + 5 + 3) (o := 0) (by omega) hx1 (by decide) ha1
  obtain ⟨c1, hc1⟩ : ∃ c, a0 * 256 + a1 = c := ⟨_, rfl⟩
  have O1 := or_more 8 256 rfl hc1 rfl la1 (by decide) (by omega)
  have v1 : (c1 : Int) < 2048 := by omega
  have E1 : rd (byteBits xs) (8 * q + 5) 11 = c1 := rd_more (a := 3) (b := 8) (by omega) R0 R1 hc1
  have HE := Lib.hid E1
  have HS := Lib.hid h
  obtain ⟨av, hav⟩ : ∃ av, 8 * xs.length - (8 * q + 5) = av := ⟨_, rfl⟩
  have HA := h.avail hav
  have hk : (11 : Int) ≤ av := by omega
  obtain ⟨n, hn⟩ : ∃ n, xs.length = n := ⟨_, rfl⟩
  rw [hn] at g0 hfit hfew
  have HN := Lib.hid hn
  have HF := Lib.hid hfit
  have qn : (q : Int) ≤ 300 := by omega
  have q0 : (q : Int) < n := by omega
  have q1 : (q : Int) + 1 < n := by omega
  clear h hav hn hfit hx0 hx1 ha0 ha1 R0 R1 E1 hc1
  have hdr := drewN_set
  have hss1 := set_twice' S 1
  have hss2 := set_twice' S 2
  go_enter Tryz.func227, Tryz.ntmps227
  go_wp2_with fail
  refine HA.out.mono ?_
  rintro e wx ⟨rfl, n1, rfl⟩
  go_wp2_with fail
  go_quiet (fail)
  go_wp2_with fail
  refine wp_loop_rounds 2 ?_
  rw [rounds_succ]
  go_wp2_with fail
  go_quiet (fail)
  go_wp2_with fail
  rw [rounds_succ]
  go_wp2_with fail
  go_ret2
  exact ⟨by rw [HE.out]; rfl, HS.out.next (((HS.out.st.set 2 _).set 1 _).drewN _) (by rw [show (8 * q + 5 + 11) / 8 = q + 2 by omega, show (8 * q + 5 + 11) % 8 = 0 by omega]; simp [Int.add_assoc] <;> omega) (((HS.out.ar.set_other hSD _).set_other hSD _).drewN _) (by rw [HN.out]; exact HF.out), ((((Kept.refl [S] w).setCell (p := ⟨S, 2, none⟩) (.inl (by simp)) _).setCell (p := ⟨S, 1, none⟩) (.inl (by simp)) _).drewN _)⟩
end

section
set_option maxRecDepth 100000
set_option maxHeartbeats 1000000
theorem read_6_4 {w : World} {S D : Nat} {xs : List Nat} {q : Nat} (h : BS w S D xs (8 * q + 6)) (hfit : 8 * q + 6 + 4 ≤ 8 * xs.length) : ReadOk w S D xs (8 * q + 6) 4 := by
  obtain ⟨g0, g1, g2, f1, f2⟩ := h.heads (by decide)
  have hSD := h.ne
  have hDS := h.ne.symm
  have hfew := h.few
  obtain ⟨b0, hx0, hb0, d0, e0⟩ := h.byte (q) (by omega)
  obtain ⟨b1, hx1, hb1, d1, e1⟩ := h.byte (q + 1) (by omega)
  obtain ⟨a0, ha0⟩ : ∃ a, b0 / 2 ^ 0 % 2 ^ 2 = a := ⟨_, rfl⟩
  have la0 : a0 < 4 := part_lt ha0 rfl
  have A0 := and_part0 3 (by decide) rfl hb0 ha0
  have u0 : (a0 : Int) < 4 := by omega
  have R0 := rd_part (p := 8 * q + 6) (o := 6) (by omega) hx0 (by decide) ha0
  obtain ⟨a1, ha1⟩ : ∃ a, b1 / 2 ^ 6 % 2 ^ 2 = a := ⟨_, rfl⟩
  have la1 : a1 < 4 := part_lt ha1 rfl
  have A1 := and_part 192 64 (by decide) rfl rfl hb1 ha1
  have S1 : (a1 : Int) * 64 / 64 = a1 := by omega
  have u1 : (a1 : Int) < 4 := by omega
  have R1 := rd_part (p := 8 * q + 6 + 2) (o := 0) (by omega) hx1 (by decide) ha1
  obtain ⟨c1, hc1⟩ : ∃ c, a0 * 4 + a1 = c := ⟨_, rfl⟩
  have O1 := or_more 2 4 rfl hc1 rfl la1 (by decide) (by omega)
  have v1 : (c1 : Int) < 16 := by omega
  have E1 : rd (byteBits xs) (8 * q + 6) 4 = c1 := rd_more (a := 2) (b := 2) (by omega) R0 R1 hc1
  have HE := Lib.hid E1
  have HS := Lib.hid h
  obtain ⟨av, hav⟩ : ∃ av, 8 * xs.length - (8 * q + 6) = av := ⟨_, rfl⟩
  have HA := h.avail hav
  have hk : (4 : Int) ≤ av := by omega
  obtain ⟨n, hn⟩ : ∃ n, xs.length = n := ⟨_, rfl⟩
  rw [hn] at g0 hfit hfew
  have HN := Lib.hid hn
  have HF := Lib.hid hfit
  have qn : (q : Int) ≤ 300 := by omega
  have q0 : (q : Int) < n := by omega
  have q1 : (q : Int) + 1 < n := by omega
  clear h hav hn hfit hx0 hx1 ha0 ha1 R0 R1 E1 hc1
  have hdr := drewN_set
  have hss1 := set_twice' S 1
  have hss2 := set_twice' S 2
  go_enter Tryz.func227, Tryz.ntmps227
  go_wp2_with fail
  refine HA.out.mono ?_
  rintro e wx ⟨rfl, n1, rfl⟩
  go_wp2_with fail
  go_quiet (fail)
  go_wp2_with fail
  refine wp_loop_rounds 1 ?_
  rw [rounds_succ]
  go_wp2_with fail
  go_quiet (fail)
  go_wp2_with fail
  go_ret2
  exact ⟨by rw [HE.out]; rfl, HS.out.next ((((HS.out.st.set 2 _).set 1 _).set 2 _).drewN _) (by rw [show (8 * q + 6 + 4) / 8 = q + 1 by omega, show (8 * q + 6 + 4) % 8 = 2 by omega]; simp [Int.add_assoc] <;> omega) ((((HS.out.ar.set_other hSD _).set_other hSD _).set_other hSD _).drewN _) (by rw [HN.out]; exact HF.out), (((((Kept.refl [S] w).setCell (p := ⟨S, 2, none⟩) (.inl (by simp)) _).setCell (p := ⟨S, 1, none⟩) (.inl (by simp)) _).setCell (p := ⟨S, 2, none⟩) (.inl (by simp)) _).drewN _)⟩
theorem read_6_6 {w : World} {S D : Nat} {xs : List Nat} {q : Nat} (h : BS w S D xs (8 * q + 6)) (hfit : 8 * q + 6 + 6 ≤ 8 * xs.length) : ReadOk w S D xs (8 * q + 6) 6 := by
  obtain ⟨g0, g1, g2, f1, f2⟩ := h.heads (by decide)
  have hSD := h.ne
  have hDS := h.ne.symm
  have hfew := h.few
  obtain ⟨b0, hx0, hb0, d0, e0⟩ := h.byte (q) (by omega)
  obtain ⟨b1, hx1, hb1, d1, e1⟩ := h.byte (q + 1) (by omega)
  obtain ⟨a0, ha0⟩ : ∃ a, b0 / 2 ^ 0 % 2 ^ 2 = a := ⟨_, rfl⟩
  have la0 : a0 < 4 := part_lt ha0 rfl
  have A0 := and_part0 3 (by decide) rfl hb0 ha0
  have u0 : (a0 : Int) < 4 := by omega
  have R0 := rd_part (p := 8 * q + 6) (o := 6) (by omega) hx0 (by decide) ha0
  obtain ⟨a1, ha1⟩ : ∃ a, b1 / 2 ^ 4 % 2 ^ 4 = a := ⟨_, rfl⟩
  have la1 : a1 < 16 := part_lt ha1 rfl
  have A1 := and_part 240 16 (by decide) rfl rfl hb1 ha1
  have S1 : (a1 : Int) * 16 / 16 = a1 := by omega
  have u1 : (a1 : Int) < 16 := by omega
  have R1 := rd_part (p := 8 * q + 6 + 2) (o := 0) (by omega) hx1 (by decide) ha1
  obtain ⟨c1, hc1⟩ : ∃ c, a0 * 16 + a1 = c := ⟨_, rfl⟩
  have O1 := or_more 4 16 rfl hc1 rfl la1 (by decide) (by omega)
  have v1 : (c1 : Int) < 64 := by omega
  have E1 : rd (byteBits xs) (8 * q + 6) 6 = c1 := rd_more (a := 2) (b := 4) (by omega) R0 R1 hc1
  have HE := Lib.hid E1
  have HS := Lib.hid h
  obtain ⟨av, hav⟩ : ∃ av, 8 * xs.length - (8 * q + 6) = av := ⟨_, rfl⟩
  have HA := h.avail hav
  have hk : (6 : Int) ≤ av := by omega
  obtain ⟨n, hn⟩ : ∃ n, xs.length = n := ⟨_, rfl⟩
  rw [hn] at g0 hfit hfew
  have HN := Lib.hid hn
  have HF := Lib.hid hfit
  have qn : (q : Int) ≤ 300 := by omega
  have q0 : (q : Int) < n := by omega
  have q1 : (q : Int) + 1 < n := by omega
  clear h hav hn hfit hx0 hx1 ha0 ha1 R0 R1 E1 hc1
  have hdr := drewN_set
  have hss1 := set_twice' S 1
  have hss2 := set_twice' S 2
  go_enter Tryz.func227, Tryz.ntmps227
  go_wp2_with fail
  refine HA.out.mono ?_
  rintro e wx ⟨rfl, n1, rfl⟩
  go_wp2_with fail
  go_quiet (fail)
  go_wp2_with fail
  refine wp_loop_rounds 1 ?_
  rw [rounds_succ]
  go_wp2_with fail
  go_quiet (fail)
  go_wp2_with fail
  go_ret2
  exact ⟨by rw [HE.out]; rfl, HS.out.next ((((HS.out.st.set 2 _).set 1 _).set 2 _).drewN _) (by rw [show (8 * q + 6 + 6) / 8 = q + 1 by omega, show (8 * q + 6 + 6) % 8 = 4 by omega]; simp [Int.add_assoc] <;> omega) ((((HS.out.ar.set_other hSD _).set_other hSD _).set_other hSD _).drewN _) (by rw [HN.out]; exact HF.out), (((((Kept.refl [S] w).setCell (p := ⟨S, 2, none⟩) (.inl (by simp)) _).setCell (p := ⟨S, 1, none⟩) (.inl (by simp)) _).setCell (p := ⟨S, 2, none⟩) (.inl (by simp)) _).drewN _)⟩
theorem read_6_7 {w : World} {S D : Nat} {xs : List Nat} {q : Nat} (h : BS w S D xs (8 * q + 6)) (hfit : 8 * q + 6 + 7 ≤ 8 * xs.length) : ReadOk w S D xs (8 * q + 6) 7 := by
  obtain ⟨g0, g1, g2, f1, f2⟩ := h.heads (by decide)
  have hSD := h.ne
  have hDS := h.ne.symm
  have hfew := h.few
  obtain ⟨b0, hx0, hb0, d0, e0⟩ := h.byte (q) (by omega)
  obtain ⟨b1, hx1, hb1, d1, e1⟩ := h.byte (q + 1) (by omega)
  obtain ⟨a0, ha0⟩ : ∃ a, b0 / 2 ^ 0 % 2 ^ 2 = a := ⟨_, rfl⟩
  have la0 : a0 < 4 := part_lt ha0 rfl
  have A0 := and_part0 3 (by decide) rfl hb0 ha0
  have u0 : (a0 : Int) < 4 := by omega
  have R0 := rd_part (p := 8 * q + 6) (o := 6) (by omega) hx0 (by decide) ha0
  obtain ⟨a1, ha1⟩ : ∃ a, b1 / 2 ^ 3 % 2 ^ 5 = a := ⟨_, rfl⟩
  have la1 : a1 < 32 := part_lt ha1 rfl
  have A1 := and_part 248 8 (by decide) rfl rfl hb1 ha1
  have S1 : (a1 : Int) * 8 / 8 = a1 := by omega
  have u1 : (a1 : Int) < 32 := by omega
  have R1 := rd_part (p := 8 * q + 6 + 2) (o := 0) (by omega) hx1 (by decide) ha1
  obtain ⟨c1, hc1⟩ : ∃ c, a0 * 32 + a1 = c := ⟨_, rfl⟩
  have O1 := or_more 5 32 rfl hc1 rfl la1 (by decide) (by omega)
  have v1 : (c1 : Int) < 128 := by omega
  have E1 : rd (byteBits xs) (8 * q + 6) 7 = c1 := rd_more (a := 2) (b := 5) (by omega) R0 R1 hc1
  have HE := Lib.hid E1
  have HS := Lib.hid h
  obtain ⟨av, hav⟩ : ∃ av, 8 * xs.length - (8 * q + 6) = av := ⟨_, rfl⟩
  have HA := h.avail hav
  have hk : (7 : Int) ≤ av := by omega
  obtain ⟨n, hn⟩ : ∃ n, xs.length = n := ⟨_, rfl⟩
  rw [hn] at g0 hfit hfew
  have HN := Lib.hid hn
  have HF := Lib.hid hfit
  have qn : (q : Int) ≤ 300 := by omega
  have q0 : (q : Int) < n := by omega
  have q1 : (q : Int) + 1 < n := by omega
  clear h hav hn hfit hx0 hx1 ha0 ha1 R0 R1 E1 hc1
  have hdr := drewN_set
  have hss1 := set_twice' S 1
  have hss2 := set_twice' S 2
  go_enter Tryz.func227, Tryz.ntmps227
  go_wp2_with fail
  refine HA.out.mono ?_
  rintro e wx ⟨rfl, n1, rfl⟩
  go_wp2_with fail
  go_quiet (fail)
  go_wp2_with fail
  refine wp_loop_rounds 1 ?_
  rw [rounds_succ]
  go_wp2_with fail
  go_quiet (fail)
  go_wp2_with fail
  go_ret2
  exact ⟨by rw [HE.out]; rfl, HS.out.next ((((HS.out.st.set 2 _).set 1 _).set 2 _).drewN _) (by rw [show (8 * q + 6 + 7) / 8 = q + 1 by omega, show (8 * q + 6 + 7) % 8 = 5 by omega]; simp [Int.add_assoc] <;> omega) ((((HS.out.ar.set_other hSD _).set_other hSD _).set_other hSD _).drewN _) (by rw [HN.out]; exact HF.out), (((((Kept.refl [S] w).setCell (p := ⟨S, 2, none⟩) (.inl (by simp)) _).setCell (p := ⟨S, 1, none⟩) (.inl (by simp)) _).setCell (p := ⟨S, 2, none⟩) (.inl (by simp)) _).drewN _)⟩
theorem read_6_8 {w : World} {S D : Nat} {xs : List Nat} {q : Nat} (h : BS w S D xs (8 * q + 6)) (hfit : 8 * q + 6 + 8 ≤ 8 * xs.length) : ReadOk w S D xs (8 * q + 6) 8 := by
  obtain ⟨g0, g1, g2, f1, f2⟩ := h.heads (by decide)
  have hSD := h.ne
  have hDS := h.ne.symm
  have hfew := h.few
  obtain ⟨b0, hx0, hb0, d0, e0⟩ := h.byte (q) (by omega)
  obtain ⟨b1, hx1, hb1, d1, e1⟩ := h.byte (q + 1) (by omega)
  obtain ⟨a0, ha0⟩ : ∃ a, b0 / 2 ^ 0 % 2 ^ 2 = a := ⟨_, rfl⟩
  have la0 : a0 < 4 := part_lt ha0 rfl
  have A0 := and_part0 3 (by decide) rfl hb0 ha0
  have u0 : (a0 : Int) < 4 := by omega
  have R0 := rd_part (p := 8 * q + 6) (o := 6) (by omega) hx0 (by decide) ha0
  obtain ⟨a1, ha1⟩ : ∃ a, b1 / 2 ^ 2 % 2 ^ 6 = a := ⟨_, rfl⟩
  have la1 : a1 < 64 := part_lt ha1 rfl
  have A1 := and_part 252 4 (by decide) rfl rfl hb1 ha1
  have S1 : (a1 : Int) * 4 / 4 = a1 := by omega
  have u1 : (a1 : Int) < 64 := by omega
  have R1 := rd_part (p := 8 * q + 6 + 2) (o := 0) (by omega) hx1 (by decide) ha1
  obtain ⟨c1, hc1⟩ : ∃ c, a0 * 64 + a1 = c := ⟨_, rfl⟩
  have O1 := or_more 6 64 rfl hc1 rfl la1 (by decide) (by omega)
  have v1 : (c1 : Int) < 256 := by omega
  have E1 : rd (byteBits xs) (8 * q + 6) 8 = c1 := rd_more (a := 2) (b := 6) (by omega) R0 R1 hc1
  have HE := Lib.hid E1
  have HS := Lib.hid h
  obtain ⟨av, hav⟩ : ∃ av, 8 * xs.length - (8 * q + 6) = av := ⟨_, rfl⟩
  have HA := h.avail hav
  have hk : (8 : Int) ≤ av := by omega
  obtain ⟨n, hn⟩ : ∃ n, xs.length = n := ⟨_, rfl⟩
  rw [hn] at g0 hfit hfew
  have HN := Lib.hid hn
  have HF := Lib.hid hfit
  have qn : (q : Int) ≤ 300 := by omega
  have q0 : (q : Int) < n := by omega
  have q1 : (q : Int) + 1 < n := by omega
  clear h hav hn hfit hx0 hx1 ha0 ha1 R0 R1 E1 hc1
  have hdr := drewN_set
  have hss1 := set_twice' S 1
  have hss2 := set_twice' S 2
  go_enter Tryz.func227, Tryz.ntmps227
  go_wp2_with fail
  refine HA.out.mono ?_
  rintro e wx ⟨rfl, n1, rfl⟩
  go_wp2_with fail
  go_quiet (fail)
  go_wp2_with fail
  refine wp_loop_rounds 1 ?_
  rw [rounds_succ]
  go_wp2_with fail
  go_quiet (fail)
  go_wp2_with fail
  go_ret2
  exact ⟨by rw [HE.out]; rfl, HS.out.next ((((HS.out.st.set 2 _).set 1 _).set 2 _).drewN _) (by rw [show (8 * q + 6 + 8) / 8 = q + 1 by omega, show (8 * q + 6 + 8) % 8 = 6 by omega]; simp [Int.add_assoc] <;> omega) ((((HS.out.ar.set_other hSD _).set_other hSD _).set_other hSD _).drewN _) (by rw [HN.out]; exact HF.out), (((((Kept.refl [S] w).setCell (p := ⟨S, 2, none⟩) (.inl (by simp)) _).setCell (p := ⟨S, 1, none⟩) (.inl (by simp)) _).setCell (p := ⟨S, 2, none⟩) (.inl (by simp)) _).drewN _)⟩
theorem read_6_9 {w : World} {S D : Nat} {xs : List Nat} {q : Nat} (h : BS w S D xs (8 * q + 6)) (hfit : 8 * q + 6 + 9 ≤ 8 * xs.length) : ReadOk w S D xs (8 * q + 6) 9 := by
  obtain ⟨g0, g1, g2, f1, f2⟩ := h.heads (by decide)
  have hSD := h.ne
  have hDS := h.ne.symm
  have hfew := h.few
  obtain ⟨b0, hx0, hb0, d0, e0⟩ := h.byte (q) (by omega)
  obtain ⟨b1, hx1, hb1, d1, e1⟩ := h.byte (q + 1) (by omega)
  obtain ⟨a0, ha0⟩ : ∃ a, b0 / 2 ^ 0 % 2 ^ 2 = a := ⟨_, rfl⟩
  have la0 : a0 < 4 := part_lt ha0 rfl
  have A0 := and_part0 3 (by decide) rfl hb0 ha0
  have u0 : (a0 : Int) < 4 := by omega
  have R0 := rd_part (p := 8 * q + 6) (o := 6) (by omega) hx0 (by decide) ha0
  obtain ⟨a1, ha1⟩ : ∃ a, b1 / 2 ^ 1 % 2 ^ 7 = a := ⟨_, rfl⟩
  have la1 : a1 < 128 := part_lt ha1 rfl
  have A1 := and_part 254 2 (by decide) rfl rfl hb1 ha1
  have S1 : (a1 : Int) * 2 / 2 = a1 := by omega
  have u1 : (a1 : Int) < 128 := by omega
  have R1 := rd_part (p := 8 * q + 6 + 2) (o := 0) (by omega) hx1 (by decide) ha1
  obtain ⟨c1, hc1⟩ : ∃ c, a0 * 128 + a1 = c := ⟨_, rfl⟩
  have O1 := or_more 7 128 rfl hc1 rfl la1 (by decide) (by omega)
  have v1 : (c1 : Int) < 512 := by omega
  have E1 : rd (byteBits xs) (8 * q + 6) 9 = c1 := rd_more (a := 2) (b := 7) (by omega) R0 R1 hc1
  have HE := Lib.hid E1
  have HS := Lib.hid h
  obtain ⟨av, hav⟩ : ∃ av, 8 * xs.length - (8 * q + 6) = av := ⟨_, rfl⟩
  have HA := h.avail hav
  have hk : (9 : Int) ≤ av := by omega
  obtain ⟨n, hn⟩ : ∃ n, xs.length = n := ⟨_, rfl⟩
  rw [hn] at g0 hfit hfew
  have HN := Lib.hid hn
  have HF := Lib.hid hfit
  have qn : (q : Int) ≤ 300 := by omega
  have q0 : (q : Int) < n := by omega
  have q1 : (q : Int) + 1 < n := by omega
  clear h hav hn hfit hx0 hx1 ha0 ha1 R0 R1 E1 hc1
  have hdr := drewN_set
  have hss1 := set_twice' S 1
  have hss2 := set_twice' S 2
  go_enter Tryz.func227, Tryz.ntmps227
  go_wp2_with fail
  refine HA.out.mono ?_
  rintro e wx ⟨rfl, n1, rfl⟩
  go_wp2_with fail
  go_quiet (fail)
  go_wp2_with fail
  refine wp_loop_rounds 1 ?_
  rw [rounds_succ]
  go_wp2_with fail
  go_quiet (fail)
  go_wp2_with fail
  go_ret2
  exact ⟨by rw [HE.out]; rfl, HS.out.next ((((HS.out.st.set 2 _).set 1 _).set 2 _).drewN _) (by rw [show (8 * q + 6 + 9) / 8 = q + 1 by omega, show (8 * q + 6 + 9) % 8 = 7 by omega]; simp [Int.add_assoc] <;> omega) ((((HS.out.ar.set_other hSD _).set_other hSD _).set_other hSD _).drewN _) (by rw [HN.out]; exact HF.out), (((((Kept.refl [S] w).setCell (p := ⟨S, 2, none⟩) (.inl (by simp)) _).setCell (p := ⟨S, 1, none⟩) (.inl (by simp)) _).setCell (p := ⟨S, 2, none⟩) (.inl (by simp)) _).drewN _)⟩
theorem read_6_10 {w : World} {S D : Nat} {xs : List Nat} {q : Nat} (h : BS w S D xs (8 * q + 6)) (hfit : 8 * q + 6 + 10 ≤ 8 * xs.length) : ReadOk w S D xs (8 * q + 6) 10 := by
  obtain ⟨g0, g1, g2, f1, f2⟩ := h.heads (by decide)
  have hSD := h.ne
  have hDS := h.ne.symm
  have hfew := h.few
  obtain ⟨b0, hx0, hb0, d0, e0⟩ := h.byte (q) (by omega)
  obtain ⟨b1, hx1, hb1, d1, e1⟩ := h.byte (q + 1) (by omega)
  obtain ⟨a0, ha0⟩ : ∃ a, b0 / 2 ^ 0 % 2 ^ 2 = a := ⟨_, rfl⟩
  have la0 : a0 < 4 := part_lt ha0 rfl
  have A0 := and_part0 3 (by decide) rfl hb0 ha0
  have u0 : (a0 : Int) < 4 := by omega
  have R0 := rd_part (p := 8 * q + 6) (o := 6) (by omega) hx0 (by decide) ha0
  obtain ⟨a1, ha1⟩ : ∃ a, b1 / 2 ^ 0 % 2 ^ 8 = a := ⟨_, rfl⟩
  have la1 : a1 < 256 := part_lt ha1 rfl
  have A1 := and_part0 255 (by decide) rfl hb1 ha1
  have u1 : (a1 : Int) < 256 := by omega
  have R1 := rd_part (p := 8 * q + 6 + 2) (o := 0) (by omega) hx1 (by decide) ha1
  obtain ⟨c1, hc1⟩ : ∃ c, a0 * 256 + a1 = c := ⟨_, rfl⟩
  have O1 := or_more 8 256 rfl hc1 rfl la1 (by decide) (by omega)
  have v1 : (c1 : Int) < 1024 := by omega
  have E1 : rd (byteBits xs) (8 * q + 6) 10 = c1 := rd_more (a := 2) (b := 8) (by omega) R0 R1 hc1
  have HE := Lib.hid E1
  have HS := Lib.hid h
  obtain ⟨av, hav⟩ : ∃ av, 8 * xs.length - (8 * q + 6) = av := ⟨_, rfl⟩
  have HA := h.avail hav
  have hk : (10 : Int) ≤ av := by omega
  obtain ⟨n, hn⟩ : ∃ n, xs.length = n := ⟨_, rfl⟩
  rw [hn] at g0 hfit hfew
  have HN := Lib.hid hn
  have HF := Lib.hid hfit
  have qn : (q : Int) ≤ 300 := by omega
  have q0 : (q : Int) < n := by omega
  have q1 : (q : Int) + 1 < n := by omega
  clear h hav hn hfit hx0 hx1 ha0 ha1 R0 R1 E1 hc1
  have hdr := drewN_set
  have hss1 := set_twice' S 1
  have hss2 := set_twice' S 2
  go_enter Tryz.func227, Tryz.ntmps227
  go_wp2_with fail
  refine HA.out.mono ?_
  rintro e wx ⟨rfl, n1, rfl⟩
  go_wp2_with fail
  go_quiet (fail)
  go_wp2_with fail
  refine wp_loop_rounds 2 ?_
  rw [rounds_succ]
  go_wp2_with fail
  go_quiet (fail)
  go_wp2_with fail
  rw [rounds_succ]
  go_wp2_with fail
  go_ret2
  exact ⟨by rw [HE.out]; rfl, HS.out.next (((HS.out.st.set 2 _).set 1 _).drewN _) (by rw [show (8 * q + 6 + 10) / 8 = q + 2 by omega, show (8 * q + 6 + 10) % 8 = 0 by omega]; simp [Int.add_assoc] <;> omega) (((HS.out.ar.set_other hSD _).set_other hSD _).drewN _) (by rw [HN.out]; exact HF.out), ((((Kept.refl [S] w).setCell (p := ⟨S, 2, none⟩) (.inl (by simp)) _).setCell (p := ⟨S, 1, none⟩) (.inl (by simp)) _).drewN _)⟩
theorem read_6_11 {w : World} {S D : Nat} {xs : List Nat} {q : Nat} (h : BS w S D xs (8 * q + 6)) (hfit : 8 * q + 6 + 11 ≤ 8 * xs.length) : ReadOk w S D xs (8 * q + 6) 11 := by
  obtain ⟨g0, g1, g2, f1, f2⟩ := h.heads (by decide)
  have hSD := h.ne
  have hDS := h.ne.symm
  have hfew := h.few
  obtain ⟨b0, hx0, hb0, d0, e0⟩ := h.byte (q) (by omega)
  obtain ⟨b1, hx1, hb1, d1, e1⟩ := h.byte (q + 1) (by omega)
  obtain ⟨b2, hx2, hb2, d2, e2⟩ := h.byte (q + 2) (by omega)
  obtain ⟨a0, ha0⟩ : ∃ a, b0 / 2 ^ 0 % 2 ^ 2 = a := ⟨_, rfl⟩
  have la0 : a0 < 4 := part_lt ha0 rfl
  have A0 := and_part0 3 (by decide) rfl hb0 ha0
  have u0 : (a0 : Int) < 4 := by omega
  have R0 := rd_part (p := 8 * q + 6) (o := 6) (by omega) hx0 (by decide) ha0
  obtain ⟨a1, ha1⟩ : ∃ a, b1 / 2 ^ 0 % 2 ^ 8 = a := ⟨_, rfl⟩
  have la1 : a1 < 256 := part_lt ha1 rfl
  have A1 := and_part0 255 (by decide) rfl hb1 ha1
  have u1 : (a1 : Int) < 256 := by omega
  have R1 := rd_part (p := 8 * q + 6 + 2) (o := 0) (by omega) hx1 (by decide) ha1
  obtain ⟨c1, hc1⟩ : ∃ c, a0 * 256 + a1 = c := ⟨_, rfl⟩
  have O1 := or_more 8 256 rfl hc1 rfl la1 (by decide) (by omega)
  have v1 : (c1 : Int) < 1024 := by omega
  have E1 : rd (byteBits xs) (8 * q + 6) 10 = c1 := rd_more (a := 2) (b := 8) (by omega) R0 R1 hc1
  obtain ⟨a2, ha2⟩ : ∃ a, b2 / 2 ^ 7 % 2 ^ 1 = a := ⟨_, rfl⟩
  have la2 : a2 < 2 := part_lt ha2 rfl
  have A2 := and_part 128 128 (by decide) rfl rfl hb2 ha2
  have S2 : (a2 : Int) * 128 / 128 = a2 := by omega
  have u2 : (a2 : Int) < 2 := by omega
  have R2 := rd_part (p := 8 * q + 6 + 10) (o := 0) (by omega) hx2 (by decide) ha2
  obtain ⟨c2, hc2⟩ : ∃ c, c1 * 2 + a2 = c := ⟨_, rfl⟩
  have O2 := or_more 1 2 rfl hc2 rfl la2 (by decide) (by omega)
  have v2 : (c2 : Int) < 2048 := by omega
  have E2 : rd (byteBits xs) (8 * q + 6) 11 = c2 := rd_more (a := 10) (b := 1) (by omega) E1 R2 hc2
  have HE := Lib.hid E2
  have HS := Lib.hid h
  obtain ⟨av, hav⟩ : ∃ av, 8 * xs.length - (8 * q + 6) = av := ⟨_, rfl⟩
  have HA := h.avail hav
  have hk : (11 : Int) ≤ av := by omega
  obtain ⟨n, hn⟩ : ∃ n, xs.length = n := ⟨_, rfl⟩
  rw [hn] at g0 hfit hfew
  have HN := Lib.hid hn
  have HF := Lib.hid hfit
  have qn : (q : Int) ≤ 300 := by omega
  have q0 : (q : Int) < n := by omega
  have q1 : (q : Int) + 1 < n := by omega
  have q2 : (q : Int) + 2 < n := by omega
  clear h hav hn hfit hx0 hx1 hx2 ha0 ha1 ha2 R0 R1 R2 E1 E2 hc1 hc2
  have hdr := drewN_set
  have hss1 := set_twice' S 1
  have hss2 := set_twice' S 2
  go_enter Tryz.func227, Tryz.ntmps227
  go_wp2_with fail
  refine HA.out.mono ?_
  rintro e wx ⟨rfl, n1, rfl⟩
  go_wp2_with fail
  go_quiet (fail)
  go_wp2_with fail
  refine wp_loop_rounds 2 ?_
  rw [rounds_succ]
  go_wp2_with fail
  go_quiet (fail)
  go_wp2_with fail
  rw [rounds_succ]
  go_wp2_with fail
  go_quiet (fail)
  go_wp2_with fail
  go_ret2
  exact ⟨by rw [HE.out]; rfl, HS.out.next ((((HS.out.st.set 2 _).set 1 _).set 2 _).drewN _) (by rw [show (8 * q + 6 + 11) / 8 = q + 2 by omega, show (8 * q + 6 + 11) % 8 = 1 by omega]; simp [Int.add_assoc] <;> omega) ((((HS.out.ar.set_other hSD _).set_other hSD _).set_other hSD _).drewN _) (by rw [HN.out]; exact HF.out), (((((Kept.refl [S] w).setCell (p := ⟨S, 2, none⟩) (.inl (by simp)) _).setCell (p := ⟨S, 1, none⟩) (.inl (by simp)) _).setCell (p := ⟨S, 2, none⟩) (.inl (by simp)) _).drewN _)⟩
theorem read_7_4 {w : World} {S D : Nat} {xs : List Nat} {q : Nat} (h : BS w S D xs (8 * q + 7)) (hfit : 8 * q + 7 + 4 ≤ 8 * xs.length) : ReadOk w S D xs (8 * q + 7) 4 := by
  obtain ⟨g0, g1, g2, f1, f2⟩ := h.heads (by decide)
  have hSD := h.ne
  have hDS := h.ne.symm
  have hfew := h.few
  obtain ⟨b0, hx0, hb0, d0, e0⟩ := h.byte (q) (by omega)
  obtain ⟨b1, hx1, hb1, d1, e1⟩ := h.byte (q + 1) (by omega)
  obtain ⟨a0, ha0⟩ : ∃ a, b0 / 2 ^ 0 % 2 ^ 1 = a := ⟨_, rfl⟩
  have la0 : a0 < 2 := part_lt ha0 rfl
  have A0 := and_part0 1 (by decide) rfl hb0 ha0
  have u0 : (a0 : Int) < 2 := by omega
  have R0 := rd_part (p := 8 * q + 7) (o := 7) (by omega) hx0 (by decide) ha0
  obtain ⟨a1, ha1⟩ : ∃ a, b1 / 2 ^ 5 % 2 ^ 3 = a := ⟨_, rfl⟩
  have la1 : a1 < 8 := part_lt ha1 rfl
  have A1 := and_part 224 32 (by decide) rfl rfl hb1 ha1
  have S1 : (a1 : Int) * 32 / 32 = a1 := by omega
  have u1 : (a1 : Int) < 8 := by omega
  have R1 := rd_part (p := 8 * q + 7 + 1) (o := 0) (by omega) hx1 (by decide) ha1
  obtain ⟨c1, hc1⟩ : ∃ c, a0 * 8 + a1 = c := ⟨_, rfl⟩
  have O1 := or_more 3 8 rfl hc1 rfl la1 (by decide) (by omega)
  have v1 : (c1 : Int) < 16 := by omega
  have E1 : rd (byteBits xs) (8 * q + 7) 4 = c1 := rd_more (a := 1) (b := 3) (by omega) R0 R1 hc1
  have HE := Lib.hid E1
  have HS := Lib.hid h
  obtain ⟨av, hav⟩ : ∃ av, 8 * xs.length - (8 * q + 7) = av := ⟨_, rfl⟩
  have HA := h.avail hav
  have hk : (4 : Int) ≤ av := by omega
  obtain ⟨n, hn⟩ : ∃ n, xs.length = n := ⟨_, rfl⟩
  rw [hn] at g0 hfit hfew
  have HN := Lib.hid hn
  have HF := Lib.hid hfit
  have qn : (q : Int) ≤ 300 := by omega
  have q0 : (q : Int) < n := by omega
  have q1 : (q : Int) + 1 < n := by omega
  clear h hav hn hfit hx0 hx1 ha0 ha1 R0 R1 E1 hc1
  have hdr := drewN_set
  have hss1 := set_twice' S 1
  have hss2 := set_twice' S 2
  go_enter Tryz.func227, Tryz.ntmps227
  go_wp2_with fail
  refine HA.out.mono ?_
  rintro e wx ⟨rfl, n1, rfl⟩
  go_wp2_with fail
  go_quiet (fail)
  go_wp2_with fail
  refine wp_loop_rounds 1 ?_
  rw [rounds_succ]
  go_wp2_with fail
  go_quiet (fail)
  go_wp2_with fail
  go_ret2
  exact ⟨by rw [HE.out]; rfl, HS.out.next ((((HS.out.st.set 2 _).set 1 _).set 2 _).drewN _) (by rw [show (8 * q + 7 + 4) / 8 = q + 1 by omega, show (8 * q + 7 + 4) % 8 = 3 by omega]; simp [Int.add_assoc] <;> omega) ((((HS.out.ar.set_other hSD _).set_other hSD _).set_other hSD _).drewN _) (by rw [HN.out]; exact HF.out), (((((Kept.refl [S] w).setCell (p := ⟨S, 2, none⟩) (.inl (by simp)) _).setCell (p := ⟨S, 1, none⟩) (.inl (by simp)) _).setCell (p := ⟨S, 2, none⟩) (.inl (by simp)) _).drewN _)⟩
theorem read_7_6 {w : World} {S D : Nat} {xs : List Nat} {q : Nat} (h : BS w S D xs (8 * q + 7)) (hfit : 8 * q + 7 + 6 ≤ 8 * xs.length) : ReadOk w S D xs (8 * q + 7) 6 := by
  obtain ⟨g0, g1, g2, f1, f2⟩ := h.heads (by decide)
  have hSD := h.ne
  have hDS := h.ne.symm
  have hfew := h.few
  obtain ⟨b0, hx0, hb0, d0, e0⟩ := h.byte (q) (by omega)
  obtain ⟨b1, hx1, hb1, d1, e1⟩ := h.byte (q + 1) (by omega)
  obtain ⟨a0, ha0⟩ : ∃ a, b0 / 2 ^ 0 % 2 ^ 1 = a := ⟨_, rfl⟩
  have la0 : a0 < 2 := part_lt ha0 rfl
  have A0 := and_part0 1 (by decide) rfl hb0 ha0
  have u0 : (a0 : Int) < 2 := by omega
  have R0 := rd_part (p := 8 * q + 7) (o := 7) (by omega) hx0 (by decide) ha0
  obtain ⟨a1, ha1⟩ : ∃ a, b1 / 2 ^ 3 % 2 ^ 5 = a := ⟨_, rfl⟩
  have la1 : a1 < 32 := part_lt ha1 rfl
  have A1 := and_part 248 8 (by decide) rfl rfl hb1 ha1
  have S1 : (a1 : Int) * 8 / 8 = a1 := by omega
  have u1 : (a1 : Int) < 32 := by omega
  have R1 := rd_part (p := 8 * q + 7 + 1) (o := 0) (by omega) hx1 (by decide) ha1
  obtain ⟨c1, hc1⟩ : ∃ c, a0 * 32 + a1 = c := ⟨_, rfl⟩
  have O1 := or_more 5 32 rfl hc1 rfl la1 (by decide) (by omega)
  have v1 : (c1 : Int) < 64 := by omega
  have E1 : rd (byteBits xs) (8 * q + 7) 6 = c1 := rd_more (a := 1) (b := 5) (by omega) R0 R1 hc1
  have HE := Lib.hid E1
  have HS := Lib.hid h
  obtain ⟨av, hav⟩ : ∃ av, 8 * xs.length - (8 * q + 7) = av := ⟨_, rfl⟩
  have HA := h.avail hav
  have hk : (6 : Int) ≤ av := by omega
  obtain ⟨n, hn⟩ : ∃ n, xs.length = n := ⟨_, rfl⟩
  rw [hn] at g0 hfit hfew
  have HN := Lib.hid hn
  have HF := Lib.hid hfit
  have qn : (q : Int) ≤ 300 := by omega
  have q0 : (q : Int) < n := by omega
  have q1 : (q : Int) + 1 < n := by omega
  clear h hav hn hfit hx0 hx1 ha0 ha1 R0 R1 E1 hc1
  have hdr := drewN_set
  have hss1 := set_twice' S 1
  have hss2 := set_twice' S 2
  go_enter Tryz.func227, Tryz.ntmps227
  go_wp2_with fail
  refine HA.out.mono ?_
  rintro e wx ⟨rfl, n1, rfl⟩
  go_wp2_with fail
  go_quiet (fail)
  go_wp2_with fail
  refine wp_loop_rounds 1 ?_
  rw [rounds_succ]
  go_wp2_with fail
  go_quiet (fail)
  go_wp2_with fail
  go_ret2
  exact ⟨by rw [HE.out]; rfl, HS.out.next ((((HS.out.st.set 2 _).set 1 _).set 2 _).drewN _) (by rw [show (8 * q + 7 + 6) / 8 = q + 1 by omega, show (8 * q + 7 + 6) % 8 = 5 by omega]; simp [Int.add_assoc] <;> omega) ((((HS.out.ar.set_other hSD _).set_other hSD _).set_other hSD _).drewN _) (by rw [HN.out]; exact HF.out), (((((Kept.refl [S] w).setCell (p := ⟨S, 2, none⟩) (.inl (by simp)) _).setCell (p := ⟨S, 1, none⟩) (.inl (by simp)) _).setCell (p := ⟨S, 2, none⟩) (.inl (by simp)) _).drewN _)⟩
theorem read_7_7 {w : World} {S D : Nat} {xs : List Nat} {q : Nat} (h : BS w S D xs (8 * q + 7)) (hfit : 8 * q + 7 + 7 ≤ 8 * xs.length) : ReadOk w S D xs (8 * q + 7) 7 := by
  obtain ⟨g0, g1, g2, f1, f2⟩ := h.heads (by decide)
  have hSD := h.ne
  have hDS := h.ne.symm
  have hfew := h.few
  obtain ⟨b0, hx0, hb0, d0, e0⟩ := h.byte (q) (by omega)
  obtain ⟨b1, hx1, hb1, d1, e1⟩ := h.byte (q + 1) (by omega)
  obtain ⟨a0, ha0⟩ : ∃ a, b0 / 2 ^ 0 % 2 ^ 1 = a := ⟨_, rfl⟩
  have la0 : a0 < 2 := part_lt ha0 rfl
  have A0 := and_part0 1 (by decide) rfl hb0 ha0
  have u0 : (a0 : Int) < 2 := by omega
  have R0 := rd_part (p := 8 * q + 7) (o := 7) (by omega) hx0 (by decide) ha0
  obtain ⟨a1, ha1⟩ : ∃ a, b1 / 2 ^ 2 % 2 ^ 6 = a := ⟨_, rfl⟩
  have la1 : a1 < 64 := part_lt ha1 rfl
  have A1 := and_part 252 4 (by decide) rfl rfl hb1 ha1
  have S1 : (a1 : Int) * 4 / 4 = a1 := by omega
  have u1 : (a1 : Int) < 64 := by omega
  have R1 := rd_part (p := 8 * q + 7 + 1) (o := 0) (by omega) hx1 (by decide) ha1
  obtain ⟨c1, hc1⟩ : ∃ c, a0 * 64 + a1 = c := ⟨_, rfl⟩
  have O1 := or_more 6 64 rfl hc1 rfl la1 (by decide) (by omega)
  have v1 : (c1 : Int) < 128 := by omega
  have E1 : rd (byteBits xs) (8 * q + 7) 7 = c1 := rd_more (a := 1) (b := 6) (by omega) R0 R1 hc1
  have HE := Lib.hid E1
  have HS := Lib.hid h
  obtain ⟨av, hav⟩ : ∃ av, 8 * xs.length - (8 * q + 7) = av := ⟨_, rfl⟩
  have HA := h.avail hav
  have hk : (7 : Int) ≤ av := by omega
  obtain ⟨n, hn⟩ : ∃ n, xs.length = n := ⟨_, rfl⟩
  rw [hn] at g0 hfit hfew
  have HN := Lib.hid hn
  have HF := Lib.hid hfit
  have qn : (q : Int) ≤ 300 := by omega
  have q0 : (q : Int) < n := by omega
  have q1 : (q : Int) + 1 < n := by omega
  clear h hav hn hfit hx0 hx1 ha0 ha1 R0 R1 E1 hc1
  have hdr := drewN_set
  have hss1 := set_twice' S 1
  have hss2 := set_twice' S 2
  go_enter Tryz.func227, Tryz.ntmps227
  go_wp2_with fail
  refine HA.out.mono ?_
  rintro e wx ⟨rfl, n1, rfl⟩
  go_wp2_with fail
  go_quiet (fail)
  go_wp2_with fail
  refine wp_loop_rounds 1 ?_
  rw [rounds_succ]
  go_wp2_with fail
  go_quiet (fail)
  go_wp2_with fail
  go_ret2
  exact ⟨by rw [HE.out]; rfl, HS.out.next ((((HS.out.st.set 2 _).set 1 _).set 2 _).drewN _) (by rw [show (8 * q + 7 + 7) / 8 = q + 1 by omega, show (8 * q + 7 + 7) % 8 = 6 by omega]; simp [Int.add_assoc] <;> omega) ((((HS.out.ar.set_other hSD _).set_other hSD _).set_other hSD _).drewN _) (by rw [HN.out]; exact HF.out), (((((Kept.refl [S] w).setCell (p := ⟨S, 2, none⟩) (.inl (by simp)) _).setCell (p := ⟨S, 1, none⟩) (.inl (by simp)) _).setCell (p := ⟨S, 2, none⟩) (.inl (by simp)) _).drewN _)⟩
theorem read_7_8 {w : World} {S D : Nat} {xs : List Nat} {q : Nat} (h : BS w S D xs (8 * q + 7)) (hfit : 8 * q + 7 + 8 ≤ 8 * xs.length) : ReadOk w S D xs (8 * q + 7) 8 := by
  obtain ⟨g0, g1, g2, f1, f2⟩ := h.heads (by decide)
  have hSD := h.ne
  have hDS := h.ne.symm
  have hfew := h.few
  obtain ⟨b0, hx0, hb0, d0, e0⟩ := h.byte (q) (by omega)
  obtain ⟨b1, hx1, hb1, d1, e1⟩ := h.byte (q + 1) (by omega)
  obtain ⟨a0, ha0⟩ : ∃ a, b0 / 2 ^ 0 % 2 ^ 1 = a := ⟨_, rfl⟩
  have la0 : a0 < 2 := part_lt ha0 rfl
  have A0 := and_part0 1 (by decide) rfl hb0 ha0
  have u0 : (a0 : Int) < 2 := by omega
  have R0 := rd_part (p := 8 * q + 7) (o := 7) (by omega) hx0 (by decide) ha0
  obtain ⟨a1, ha1⟩ : ∃ a, b1 / 2 ^ 1 % 2 ^ 7 = a := ⟨_, rfl⟩
  have la1 : a1 < 128 := part_lt ha1 rfl
  have A1 := and_part 254 2 (by decide) rfl rfl hb1 ha1
  have S1 : (a1 : Int) * 2 / 2 = a1 := by omega
  have u1 : (a1 : Int) < 128 := by omega
  have R1 := rd_part (p := 8 * q + 7 + 1) (o := 0) (by omega) hx1 (by decide) ha1
  obtain ⟨c1, hc1⟩ : ∃ c, a0 * 128 + a1 = c := ⟨_, rfl⟩
  have O1 := or_more 7 128 rfl hc1 rfl la1 (by decide) (by omega)
  have v1 : (c1 : Int) < 256 := by omega
  have E1 : rd (byteBits xs) (8 * q + 7) 8 = c1 := rd_more (a := 1) (b := 7) (by omega) R0 R1 hc1
  have HE := Lib.hid E1
  have HS := Lib.hid h
  obtain ⟨av, hav⟩ : ∃ av, 8 * xs.length - (8 * q + 7) = av := ⟨_, rfl⟩
  have HA := h.avail hav
  have hk : (8 : Int) ≤ av := by omega
  obtain ⟨n, hn⟩ : ∃ n, xs.length = n := ⟨_, rfl⟩
  rw [hn] at g0 hfit hfew
  have HN := Lib.hid hn
  have HF := Lib.hid hfit
  have qn : (q : Int) ≤ 300 := by omega
  have q0 : (q : Int) < n := by omega
  have q1 : (q : Int) + 1 < n := by omega
  clear h hav hn hfit hx0 hx1 ha0 ha1 R0 R1 E1 hc1
  have hdr := drewN_set
  have hss1 := set_twice' S 1
  have hss2 := set_twice' S 2
  go_enter Tryz.func227, Tryz.ntmps227
  go_wp2_with fail
  refine HA.out.mono ?_
  rintro e wx ⟨rfl, n1, rfl⟩
  go_wp2_with fail
  go_quiet (fail)
  go_wp2_with fail
  refine wp_loop_rounds 1 ?_
  rw [rounds_succ]
  go_wp2_with fail
  go_quiet (fail)
  go_wp2_with fail
  go_ret2
  exact ⟨by rw [HE.out]; rfl, HS.out.next ((((HS.out.st.set 2 _).set 1 _).set 2 _).drewN _) (by rw [show (8 * q + 7 + 8) / 8 = q + 1 by omega, show (8 * q + 7 + 8) % 8 = 7 by omega]; simp [Int.add_assoc] <;> omega) ((((HS.out.ar.set_other hSD _).set_other hSD _).set_other hSD _).drewN _) (by rw [HN.out]; exact HF.out), (((((Kept.refl [S] w).setCell (p := ⟨S, 2, none⟩) (.inl (by simp)) _).setCell (p := ⟨S, 1, none⟩) (.inl (by simp)) _).setCell (p := ⟨S, 2, none⟩) (.inl (by simp)) _).drewN _)⟩
theorem read_7_9 {w : World} {S D : Nat} {xs : List Nat} {q : Nat} (h : BS w S D xs (8 * q + 7)) (hfit : 8 * q + 7 + 9 ≤ 8 * xs.length) : ReadOk w S D xs (8 * q + 7) 9 := by
  obtain ⟨g0, g1, g2, f1, f2⟩ := h.heads (by decide)
  have hSD := h.ne
  have hDS := h.ne.symm
  have hfew := h.few
  obtain ⟨b0, hx0, hb0, d0, e0⟩ := h.byte (q) (by omega)
  obtain ⟨b1, hx1, hb1, d1, e1⟩ := h.byte (q + 1) (by omega)
  obtain ⟨a0, ha0⟩ : ∃ a, b0 / 2 ^ 0 % 2 ^ 1 = a := ⟨_, rfl⟩
  have la0 : a0 < 2 := part_lt ha0 rfl
  have A0 := and_part0 1 (by decide) rfl hb0 ha0
  have u0 : (a0 : Int) < 2 := by omega
  have R0 := rd_part (p := 8 * q + 7) (o := 7) (by omega) hx0 (by decide) ha0
  obtain ⟨a1, ha1⟩ : ∃ a, b1 / 2 ^ 0 % 2 ^ 8 = a := ⟨_, rfl⟩
  have la1 : a1 < 256 := part_lt ha1 rfl
  have A1 := and_part0 255 (by decide) rfl hb1 ha1
  have u1 : (a1 : Int) < 256 := by omega
  have R1 := rd_part (p := 8 * q + 7 + 1) (o := 0) (by omega) hx1 (by decide) ha1
  obtain ⟨c1, hc1⟩ : ∃ c, a0 * 256 + a1 = c := ⟨_, rfl⟩
  have O1 := or_more 8 256 rfl hc1 rfl la1 (by decide) (by omega)
  have v1 : (c1 : Int) < 512 := by omega
  have E1 : rd (byteBits xs) (8 * q + 7) 9 = c1 := rd_more (a := 1) (b := 8) (by omega) R0 R1 hc1
  have HE := Lib.hid E1
  have HS := Lib.hid h
  obtain ⟨av, hav⟩ : ∃ av, 8 * xs.length - (8 * q + 7) = av := ⟨_, rfl⟩
  have HA := h.avail hav
  have hk : (9 : Int) ≤ av := by omega
  obtain ⟨n, hn⟩ : ∃ n, xs.length = n := ⟨_, rfl⟩
  rw [hn] at g0 hfit hfew
  have HN := Lib.hid hn
  have HF := Lib.hid hfit
  have qn : (q : Int) ≤ 300 := by omega
  have q0 : (q : Int) < n := by omega
  have q1 : (q : Int) + 1 < n := by omega
  clear h hav hn hfit hx0 hx1 ha0 ha1 R0 R1 E1 hc1
  have hdr := drewN_set
  have hss1 := set_twice' S 1
  have hss2 := set_twice' S 2
  go_enter Tryz.func227, Tryz.ntmps227
  go_wp2_with fail
  refine HA.out.mono ?_
  rintro e wx ⟨rfl, n1, rfl⟩
  go_wp2_with fail
  go_quiet (fail)
  go_wp2_with fail
  refine wp_loop_rounds 2 ?_
  rw [rounds_succ]
  go_wp2_with fail
  go_quiet (fail)
  go_wp2_with fail
  rw [rounds_succ]
  go_wp2_with fail
  go_ret2
  exact ⟨by rw [HE.out]; rfl, HS.out.next (((HS.out.st.set 2 _).set 1 _).drewN _) (by rw [show (8 * q + 7 + 9) / 8 = q + 2 by omega, show (8 * q + 7 + 9) % 8 = 0 by omega]; simp [Int.add_assoc] <;> omega) (((HS.out.ar.set_other hSD _).set_other hSD _).drewN _) (by rw [HN.out]; exact HF.out), ((((Kept.refl [S] w).setCell (p := ⟨S, 2, none⟩) (.inl (by simp)) _).setCell (p := ⟨S, 1, none⟩) (.inl (by simp)) _).drewN _)⟩
theorem read_7_10 {w : World} {S D : Nat} {xs : List Nat} {q : Nat} (h : BS w S D xs (8 * q + 7)) (hfit : 8 * q + 7 + 10 ≤ 8 * xs.length) : ReadOk w S D xs (8 * q + 7) 10 := by
  obtain ⟨g0, g1, g2, f1, f2⟩ := h.heads (by decide)
  have hSD := h.ne
  have hDS := h.ne.symm
  have hfew := h.few
  obtain ⟨b0, hx0, hb0, d0, e0⟩ := h.byte (q) (by omega)
  obtain ⟨b1, hx1, hb1, d1, e1⟩ := h.byte (q + 1) (by omega)
  obtain ⟨b2, hx2, hb2, d2, e2⟩ := h.byte (q + 2) (by omega)
  obtain ⟨a0, ha0⟩ : ∃ a, b0 / 2 ^ 0 % 2 ^ 1 = a := ⟨_, rfl⟩
  have la0 : a0 < 2 := part_lt ha0 rfl
  have A0 := and_part0 1 (by decide) rfl hb0 ha0
  have u0 : (a0 : Int) < 2 := by omega
  have R0 := rd_part (p := 8 * q + 7) (o := 7) (by omega) hx0 (by decide) ha0
  obtain ⟨a1, ha1⟩ : ∃ a, b1 / 2 ^ 0 % 2 ^ 8 = a := ⟨_, rfl⟩
  have la1 : a1 < 256 := part_lt ha1 rfl
  have A1 := and_part0 255 (by decide) rfl hb1 ha1
  have u1 : (a1 : Int) < 256 := by omega
  have R1 := rd_part (p := 8 * q + 7 + 1) (o := 0) (by omega) hx1 (by decide) ha1
  obtain ⟨c1, hc1⟩ : ∃ c, a0 * 256 + a1 = c := ⟨_, rfl⟩
  have O1 := or_more 8 256 rfl hc1 rfl la1 (by decide) (by omega)
  have v1 : (c1 : Int) < 512 := by omega
  have E1 : rd (byteBits xs) (8 * q + 7) 9 = c1 := rd_more (a := 1) (b := 8) (by omega) R0 R1 hc1
  obtain ⟨a2, ha2⟩ : ∃ a, b2 / 2 ^ 7 % 2 ^ 1 = a := ⟨_, rfl⟩
  have la2 : a2 < 2 := part_lt ha2 rfl
  have A2 := and_part 128 128 (by decide) rfl rfl hb2 ha2
  have S2 : (a2 : Int) * 128 / 128 = a2 := by omega
  have u2 : (a2 : Int) < 2 := by omega
  have R2 := rd_part (p := 8 * q + 7 + 9) (o := 0) (by omega) hx2 (by decide) ha2
  obtain ⟨c2, hc2⟩ : ∃ c, c1 * 2 + a2 = c := ⟨_, rfl⟩
  have O2 := or_more 1 2 rfl hc2 rfl la2 (by decide) (by omega)
  have v2 : (c2 : Int) < 1024 := by omega
  have E2 : rd (byteBits xs) (8 * q + 7) 10 = c2 := rd_more (a := 9) (b := 1) (by omega) E1 R2 hc2
  have HE := Lib.hid E2
  have HS := Lib.hid h
  obtain ⟨av, hav⟩ : ∃ av, 8 * xs.length - (8 * q + 7) = av := ⟨_, rfl⟩
  have HA := h.avail hav
  have hk : (10 : Int) ≤ av := by omega
  obtain ⟨n, hn⟩ : ∃ n, xs.length = n := ⟨_, rfl⟩
  rw [hn] at g0 hfit hfew
  have HN := Lib.hid hn
  have HF := Lib.hid hfit
  have qn : (q : Int) ≤ 300 := by omega
  have q0 : (q : Int) < n := by omega
  have q1 : (q : Int) + 1 < n := by omega
  have q2 : (q : Int) + 2 < n := by omega
  clear h hav hn hfit hx0 hx1 hx2 ha0 ha1 ha2 R0 R1 R2 E1 E2 hc1 hc2
  have hdr := drewN_set
  have hss1 := set_twice' S 1
  have hss2 := set_twice' S 2
  go_enter Tryz.func227, Tryz.ntmps227
  go_wp2_with fail
  refine HA.out.mono ?_
  rintro e wx ⟨rfl, n1, rfl⟩
  go_wp2_with fail
  go_quiet (fail)
  go_wp2_with fail
  refine wp_loop_rounds 2 ?_
  rw [rounds_succ]
  go_wp2_with fail
  go_quiet (fail)
  go_wp2_with fail
  rw [rounds_succ]
  go_wp2_with fail
  go_quiet (fail)
  go_wp2_with fail
  go_ret2
  exact ⟨by rw [HE.out]; rfl, HS.out.next ((((HS.out.st.set 2 _).set 1 _).set 2 _).drewN _) (by rw [show (8 * q + 7 + 10) / 8 = q + 2 by omega, show (8 * q + 7 + 10) % 8 = 1 by omega]; simp [Int.add_assoc] <;> omega) ((((HS.out.ar.set_other hSD _).set_other hSD _).set_other hSD _).drewN _) (by rw [HN.out]; exact HF.out), (((((Kept.refl [S] w).setCell (p := ⟨S, 2, none⟩) (.inl (by simp)) _).setCell (p := ⟨S, 1, none⟩) (.inl (by simp)) _).setCell (p := ⟨S, 2, none⟩) (.inl (by simp)) _).drewN _)⟩
theorem read_7_11 {w : World} {S D : Nat} {xs : List Nat} {q : Nat} (h : BS w S D xs (8 * q + 7)) (hfit : 8 * q + 7 + 11 ≤ 8 * xs.length) : ReadOk w S D xs (8 * q + 7) 11 := by
  obtain ⟨g0, g1, g2, f1, f2⟩ := h.heads (by decide)
  have hSD := h.ne
  have hDS := h.ne.symm
  have hfew := h.few
  obtain ⟨b0, hx0, hb0, d0, e0⟩ := h.byte (q) (by omega)
  obtain ⟨b1, hx1, hb1, d1, e1⟩ := h.byte (q + 1) (by omega)
  obtain ⟨b2, hx2, hb2, d2, e2⟩ := h.byte (q + 2) (by omega)
  obtain ⟨a0, ha0⟩ : ∃ a, b0 / 2 ^ 0 % 2 ^ 1 = a := ⟨_, rfl⟩
  have la0 : a0 < 2 := part_lt ha0 rfl
  have A0 := and_part0 1 (by decide) rfl hb0 ha0
  have u0 : (a0 : Int) < 2 := by omega
  have R0 := rd_part (p := 8 * q + 7) (o := 7) (by omega) hx0 (by decide) ha0
  obtain ⟨a1, ha1⟩ : ∃ a, b1 / 2 ^ 0 % 2 ^ 8 = a := ⟨_, rfl⟩
  have la1 : a1 < 256 := part_lt ha1 rfl
  have A1 := and_part0 255 (by decide) rfl hb1 ha1
  have u1 : (a1 : Int) < 256 := by omega
  have R1 := rd_part (p := 8 * q + 7 + 1) (o := 0) (by omega) hx1 (by decide) ha1
  obtain ⟨c1, hc1⟩ : ∃ c, a0 * 256 + a1 = c := ⟨_, rfl⟩
  have O1 := or_more 8 256 rfl hc1 rfl la1 (by decide) (by omega)
  have v1 : (c1 : Int) < 512 := by omega
  have E1 : rd (byteBits xs) (8 * q + 7) 9 = c1 := rd_more (a := 1) (b := 8) (by omega) R0 R1 hc1
  obtain ⟨a2, ha2⟩ : ∃ a, b2 / 2 ^ 6 % 2 ^ 2 = a := ⟨_, rfl⟩
  have la2 : a2 < 4 := part_lt ha2 rfl
  have A2 := and_part 192 64 (by decide) rfl rfl hb2 ha2
  have S2 : (a2 : Int) * 64 / 64 = a2 := by omega
  have u2 : (a2 : Int) < 4 := by omega
  have R2 := rd_part (p := 8 * q + 7 + 9) (o := 0) (by omega) hx2 (by decide) ha2
  obtain ⟨c2, hc2⟩ : ∃ c, c1 * 4 + a2 = c := ⟨_, rfl⟩
  have O2 := or_more 2 4 rfl hc2 rfl la2 (by decide) (by omega)
  have v2 : (c2 : Int) < 2048 := by omega
  have E2 : rd (byteBits xs) (8 * q + 7) 11 = c2 := rd_more (a := 9) (b := 2) (by omega) E1 R2 hc2
  have HE := Lib.hid E2
  have HS := Lib.hid h
  obtain ⟨av, hav⟩ : ∃ av, 8 * xs.length - (8 * q + 7) = av := ⟨_, rfl⟩
  have HA := h.avail hav
  have hk : (11 : Int) ≤ av := by omega
  obtain ⟨n, hn⟩ : ∃ n, xs.length = n := ⟨_, rfl⟩
  rw [hn] at g0 hfit hfew
  have HN := Lib.hid hn
  have HF := Lib.hid hfit
  have qn : (q : Int) ≤ 300 := by omega
  have q0 : (q : Int) < n := by omega
  have q1 : (q : Int) + 1 < n := by omega
  have q2 : (q : Int) + 2 < n := by omega
  clear h hav hn hfit hx0 hx1 hx2 ha0 ha1 ha2 R0 R1 R2 E1 E2 hc1 hc2
  have hdr := drewN_set
  have hss1 := set_twice' S 1
  have hss2 := set_twice' S 2
  go_enter Tryz.func227, Tryz.ntmps227
  go_wp2_with fail
  refine HA.out.mono ?_
  rintro e wx ⟨rfl, n1, rfl⟩
  go_wp2_with fail
  go_quiet (fail)
  go_wp2_with fail
  refine wp_loop_rounds 2 ?_
  rw [rounds_succ]
  go_wp2_with fail
  go_quiet (fail)
  go_wp2_with fail
  rw [rounds_succ]
  go_wp2_with fail
  go_quiet (fail)
  go_wp2_with fail
  go_ret2
  exact ⟨by rw [HE.out]; rfl, HS.out.next ((((HS.out.st.set 2 _).set 1 _).set 2 _).drewN _) (by rw [show (8 * q + 7 + 11) / 8 = q + 2 by omega, show (8 * q + 7 + 11) % 8 = 2 by omega]; simp [Int.add_assoc] <;> omega) ((((HS.out.ar.set_other hSD _).set_other hSD _).set_other hSD _).drewN _) (by rw [HN.out]; exact HF.out), (((((Kept.refl [S] w).setCell (p := ⟨S, 2, none⟩) (.inl (by simp)) _).setCell (p := ⟨S, 1, none⟩) (.inl (by simp)) _).setCell (p := ⟨S, 2, none⟩) (.inl (by simp)) _).drewN _)⟩
end
end Go.Proofs.YtplpafbkalkchaaGreatDoor
