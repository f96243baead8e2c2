/- Walks: a picture's bounds, grays, and whether it tells. Walks: a hybrid binarizer is made; the plain law of a block's average. Walk: the black matrix of a picture, by the global binarizer. Walk: the hybrid binarizer's black matrix, over a contract of its black points. -/
import Derived.Test.YtplpafbkalkchaaGreatDoorW29
import Derived.Test.YtplpafbkalkchaaGreatDoorW34
import Derived.Test.YtplpafbkalkchaaGreatDoorW33
import Derived.Test.YtplpafbkalkchaaGreatDoorW15
namespace Go.Proofs.YtplpafbkalkchaaGreatDoor
open Go Go.RowKit Go.Proofs
set_option linter.all false

section
set_option maxRecDepth 100000 in
theorem tones_c (a0 a1 a2 a3 a4 : Value) (dk lt : Nat) (pt : Value) (h1 : dk < 256) (h2 : lt < 256) (w : World) :
    Calls Tryz.prog 8 #[.agg #[a0, a1, a2, a3, a4, .int .u8 (dk : Int), .int .u8 (lt : Int), pt]] w fun e w' =>
      e = .returned (.tuple #[u8c (dk % ((128 + lt % 128) / 3 + 1)), u8c (128 + lt % 128)]) ∧ Kept [] w w' := by
  have i1 : (dk : Int) < 256 := by omega
  have i2 : (lt : Int) < 256 := by omega
  go_enter Tryz.func8, Tryz.ntmps8
  go_wp2_with fail
  go_ret2
  refine ⟨?_, (Kept.refl _ _).alloc _⟩
  unfold u8c
  push_cast
  rfl
set_option maxRecDepth 100000 in
set_option maxHeartbeats 2000000 in
theorem even_c {w : World} {R H W : Nat} {f : Nat → Nat → Bool} (h : BR w R H W f) (hH1 : 21 ≤ H) (hH2 : H ≤ 300) (hW1 : 21 ≤ W) (hW2 : W ≤ 300) :
    Calls Tryz.prog 7 #[slv R H H, .int .i64 21, .int .i64 300] w fun e w' => e = .returned (.bool true) ∧ w = w' := by
  have i1 : (21 : Int) ≤ H := by omega
  have i2 : (H : Int) ≤ 300 := by omega
  have i3 : (21 : Int) ≤ W := by omega
  have i4 : (W : Int) ≤ 300 := by omega
  have c0 := h.rows.at (rowOf_get (n := H) (f := fun y => slv (R + 1 + y) W W) (i := 0) (by omega))
  have HB := Lib.hid h
  clear h
  go_enter Tryz.func7, Tryz.ntmps7
  go_wp2_with fail
  go_loopw [22] (fun s22 wr => ∃ y : Nat, y ≤ H ∧ s22 = .int .i64 (y : Int) ∧ w = wr) (fun s _ => (H - intOf s).toNat)
  case atStart => exact ⟨0, by omega, rfl, rfl⟩
  case round =>
    obtain ⟨y, hy, rfl, rfl⟩ := hrel
    by_cases hlt : y < H
    · have hi : (y : Int) < H := by omega
      have c1 := HB.out.rows.at (rowOf_get (n := H) (f := fun y => slv (R + 1 + y) W W) (i := y) hlt)
      go_wp2_with fail
      go_roundw
      case rel => exact ⟨y + 1, by omega, by go_num, by first | exact rfl | exact trivial⟩
      case measure => simp [intOf]; omega
    · obtain rfl : y = H := by omega
      go_wp2_with fail
      go_ret
      exact ⟨rfl, rfl⟩
/-- No dark pixel of the first y rows and of the first x of the next one lies left of bd. -/
def LeftOf (f : Nat → Nat → Bool) (W y x bd : Nat) : Prop := bd ≤ W ∧ ∀ y' x', (y' < y ∨ (y' = y ∧ x' < x)) → x' < W → f y' x' = true → bd ≤ x'
theorem LeftOf.light {f : Nat → Nat → Bool} {W y x bd : Nat} (h : LeftOf f W y x bd) (hf : f y x = false) : LeftOf f W y (x + 1) bd := by
  refine ⟨h.1, fun y' x' h1 h2 h3 => ?_⟩
  by_cases he : y' = y ∧ x' = x
  · obtain ⟨rfl, rfl⟩ := he; rw [hf] at h3; cases h3
  · exact h.2 y' x' (by omega) h2 h3
theorem LeftOf.far {f : Nat → Nat → Bool} {W y x bd : Nat} (h : LeftOf f W y x bd) (hx : bd ≤ x) : LeftOf f W y (x + 1) bd := by
  refine ⟨h.1, fun y' x' h1 h2 h3 => ?_⟩
  by_cases he : y' = y ∧ x' = x
  · obtain ⟨rfl, rfl⟩ := he; exact hx
  · exact h.2 y' x' (by omega) h2 h3
theorem LeftOf.near {f : Nat → Nat → Bool} {W y x bd : Nat} (h : LeftOf f W y x bd) (hx : x < bd) : LeftOf f W y (x + 1) x := by
  refine ⟨by have := h.1; omega, fun y' x' h1 h2 h3 => ?_⟩
  by_cases he : y' = y ∧ x' = x
  · obtain ⟨rfl, rfl⟩ := he; exact Nat.le_refl _
  · have := h.2 y' x' (by omega) h2 h3; omega
theorem LeftOf.row {f : Nat → Nat → Bool} {W y bd : Nat} (h : LeftOf f W y W bd) : LeftOf f W (y + 1) 0 bd :=
  ⟨h.1, fun y' x' h1 h2 h3 => h.2 y' x' (by omega) h2 h3⟩
/-- What it says: whether the picture tells; where it does, why. -/
def ToldOut (W H dk : Nat) (f : Nat → Nat → Bool) (pt : Bool) (e : Ending) : Prop :=
  ∃ r, e = .returned (.bool r) ∧ (r = true → (pt = false ∧ ∃ bd, W < 5 * bd ∧ ∀ y x, y < H → x < W → f y x = true → bd ≤ x) ∨ (pt = true ∧ 40 ≤ W ∧ 40 ≤ H ∧ dk = 0))
set_option maxRecDepth 100000 in
set_option maxHeartbeats 2000000 in
theorem told_c {w : World} {R H W : Nat} {f : Nat → Nat → Bool} (h : BR w R H W f) (hH1 : 21 ≤ H) (hH2 : H ≤ 300) (hW1 : 21 ≤ W) (hW2 : W ≤ 300) (dk : Nat) (hdk : dk < 256) (pt : Bool) :
    Calls Tryz.prog 9 #[slv R H H, u8c dk, .bool pt] w fun e w' =>
      ToldOut W H dk f pt e ∧ w = w' := by
  have i1 : (21 : Int) ≤ H := by omega
  have i2 : (H : Int) ≤ 300 := by omega
  have i3 : (21 : Int) ≤ W := by omega
  have i4 : (W : Int) ≤ 300 := by omega
  have i5 : (dk : Int) < 256 := by omega
  have i6 : ¬ (H : Int) = 0 := by omega
  have c0 := h.rows.at (rowOf_get (n := H) (f := fun y => slv (R + 1 + y) W W) (i := 0) (by omega))
  have HB := Lib.hid h
  clear h
  unfold u8c
  go_enter Tryz.func9, Tryz.ntmps9
  go_wp2_with fail
  go_loopw [9, 25] (fun s9 s25 wr => ∃ y bd : Nat, y ≤ H ∧ s9 = .int .i64 (bd : Int) ∧ s25 = .int .i64 (y : Int) ∧ LeftOf f W y 0 bd ∧ w = wr) (fun _ s _ => (H - intOf s).toNat)
  case atStart => exact ⟨0, W, by omega, rfl, rfl, ⟨Nat.le_refl _, fun y' x' h1 _ _ => by omega⟩, rfl⟩
  case round =>
    obtain ⟨y, bd, hy, rfl, rfl, hl, rfl⟩ := hrel
    have HL := Lib.hid hl
    have ibd : (bd : Int) ≤ 300 := by have := hl.1; omega
    clear hl
    by_cases hlt : y < H
    · have hi : (y : Int) < H := by omega
      have c1 := HB.out.rows.at (rowOf_get (n := H) (f := fun y => slv (R + 1 + y) W W) (i := y) hlt)
      go_wp2_with fail
      go_loopw [9, 31] (fun s9 s31 wr => ∃ x bd : Nat, x ≤ W ∧ s9 = .int .i64 (bd : Int) ∧ s31 = .int .i64 (x : Int) ∧ LeftOf f W y x bd ∧ w = wr) (fun _ s _ => (W - intOf s).toNat)
      case atStart => exact ⟨0, bd, by omega, rfl, rfl, HL.out, rfl⟩
      case round =>
        clear ibd
        obtain ⟨x, bd, hx, rfl, rfl, hl, rfl⟩ := hrel
        have HL := Lib.hid hl
        have ibd : (bd : Int) ≤ 300 := by have := hl.1; omega
        clear hl
        by_cases hltx : x < W
        · have hix : (x : Int) < W := by omega
          have d1 := (HB.out.row y hlt).at (rowOf_get (n := W) (f := fun x => .bool (f y x)) (i := x) hltx)
          obtain ⟨b, hb⟩ : ∃ b, f y x = b := ⟨_, rfl⟩
          rw [hb] at d1
          cases b
          · have HN := Lib.hid (HL.out.light hb)
            clear hb
            go_wp2_with fail
            go_roundw
            case rel => exact ⟨x + 1, bd, by omega, rfl, by go_num, HN.out, by first | exact rfl | exact trivial⟩
            case measure => simp [intOf]; omega
          · clear hb
            by_cases hxb : x < bd
            · have hxi : (x : Int) < bd := by omega
              have HN := Lib.hid (HL.out.near hxb)
              go_wp2_with fail
              go_roundw
              case rel => exact ⟨x + 1, x, by omega, rfl, by go_num, HN.out, by first | exact rfl | exact trivial⟩
              case measure => simp [intOf]; omega
            · have hxi : ¬ (x : Int) < bd := by omega
              have HN := Lib.hid (HL.out.far (by omega))
              go_wp2_with fail
              go_roundw
              case rel => exact ⟨x + 1, bd, by omega, rfl, by go_num, HN.out, by first | exact rfl | exact trivial⟩
              case measure => simp [intOf]; omega
        · obtain rfl : x = W := by omega
          go_wp2_with fail
          go_roundw
          case rel => exact ⟨y + 1, bd, by omega, rfl, by go_num, HL.out.row, by first | exact rfl | exact trivial⟩
          case measure => simp [intOf]; omega
    · obtain rfl : y = H := by omega
      cases pt
      · by_cases h5 : W < 5 * bd
        · have h5i : (W : Int) < 5 * bd := by omega
          go_wp2_with fail
          go_ret
          exact ⟨⟨true, rfl, fun _ => .inl ⟨rfl, bd, h5, fun y' x' h1 h2 h3 => HL.out.2 y' x' (.inl h1) h2 h3⟩⟩, rfl⟩
        · have h5i : ¬ (W : Int) < 5 * bd := by omega
          go_wp2_with fail
          go_ret
          exact ⟨⟨false, rfl, fun h => by cases h⟩, rfl⟩
      · by_cases h40 : 40 ≤ W ∧ 40 ≤ y ∧ dk = 0
        · obtain ⟨j1, j2, rfl⟩ := h40
          have k1 : (40 : Int) ≤ W := by omega
          have k2 : (40 : Int) ≤ y := by omega
          go_wp2_with fail
          go_ret
          exact ⟨⟨true, rfl, fun _ => .inr ⟨rfl, j1, j2, rfl⟩⟩, rfl⟩
        · rcases (show ¬ 40 ≤ W ∨ (40 ≤ W ∧ ¬ 40 ≤ y) ∨ (40 ≤ W ∧ 40 ≤ y ∧ ¬ dk = 0) by omega) with h | ⟨h, h'⟩ | ⟨h, h', h''⟩
          case' inl => have k1 : ¬ (40 : Int) ≤ W := by omega
          case' inr.inl =>
            have k1 : (40 : Int) ≤ W := by omega
            have k2 : ¬ (40 : Int) ≤ y := by omega
          case' inr.inr =>
            have k1 : (40 : Int) ≤ W := by omega
            have k2 : (40 : Int) ≤ y := by omega
            have k3 : ((dk : Int) == 0) = false := by simp; omega
          all_goals
            clear h40
            go_wp2_with fail
            go_ret
            exact ⟨⟨false, rfl, fun h => by cases h⟩, rfl⟩
/-- The grays of a picture, row by row: the first k of them. -/
def grayList (f : Nat → Nat → Bool) (W dk lt k : Nat) : List Nat := (List.range k).map fun i => if f (i / W) (i % W) then dk else lt
theorem grayList_snoc (f : Nat → Nat → Bool) (W dk lt y x : Nat) (hx : x < W) : grayList f W dk lt (y * W + x) ++ [if f y x then dk else lt] = grayList f W dk lt (y * W + x + 1) := by
  unfold grayList
  rw [List.range_succ, List.map_append]
  have h1 : (y * W + x) / W = y := by rw [Nat.mul_comm, Nat.mul_add_div (by omega), Nat.div_eq_of_lt hx]; omega
  have h2 : (y * W + x) % W = x := by rw [Nat.mul_comm, Nat.mul_add_mod, Nat.mod_eq_of_lt hx]
  simp [h1, h2]
theorem grayList_len (f : Nat → Nat → Bool) (W dk lt k : Nat) : (grayList f W dk lt k).length = k := by simp [grayList]
theorem BR.keptT {w w' : World} {R H W : Nat} {f : Nat → Nat → Bool} {S : List Nat} {U : TypeId} (h : BR w R H W f) (hk : Kept S w w') (hS : ∀ x ∈ S, ∃ us, Blk w x us U) (h1 : 57 ≠ U) (h2 : 4 ≠ U) : BR w' R H W f :=
  ⟨h.rows.keptT hk hS h1, fun y hy => (h.row y hy).keptT hk hS h2⟩
set_option maxRecDepth 100000 in
set_option maxHeartbeats 4000000 in
theorem grays_c {w : World} {R H W : Nat} {f : Nat → Nat → Bool} (h : BR w R H W f) (hH1 : 21 ≤ H) (hH2 : H ≤ 300) (hW1 : 21 ≤ W) (hW2 : W ≤ 300) (dk lt : Nat) (hdk : dk < 256) (hlt : lt < 256) :
    Calls Tryz.prog 10 #[slv R H H, .int .u8 (dk : Int), .int .u8 (lt : Int)] w fun e w' =>
      (∃ v, e = .returned (.tuple #[.int .i64 (W : Int), .int .i64 (H : Int), v]) ∧ GR w' w.heap.size 5 v ((grayList f W dk lt (H * W)).map u8c)) ∧ Kept [] w w' := by
  have i1 : (21 : Int) ≤ H := by omega
  have i2 : (H : Int) ≤ 300 := by omega
  have i3 : (21 : Int) ≤ W := by omega
  have i4 : (W : Int) ≤ 300 := by omega
  have i5 : (dk : Int) < 256 := by omega
  have i6 : (lt : Int) < 256 := by omega
  have HB := Lib.hid h
  clear h
  go_enter Tryz.func10, Tryz.ntmps10
  go_wp2_with fail
  go_loopw [9, 10, 17] (fun s9 s10 s17 wr => ∃ (y : Nat) (v : Value), v = s9 ∧ y ≤ H ∧ (0 < y → s10 = .int .i64 (W : Int)) ∧ s17 = .int .i64 (y : Int) ∧ Hid (GR wr w.heap.size 5 v ((grayList f W dk lt (y * W)).map u8c)) ∧ Kept [] w wr) (fun _ _ s _ => (H - intOf s).toNat)
  case atStart => exact ⟨0, _, rfl, by omega, by intro h; omega, rfl, Lib.hid (by rw [Nat.zero_mul]; exact GR.nil _ _ _), Kept.refl _ _⟩
  case round =>
    obtain ⟨y, v, rfl, hy, hs10, rfl, hg, hk⟩ := hrel
    by_cases hlt2 : y < H
    · have hi : (y : Int) < H := by omega
      have hbr := HB.out.kept hk (by simp)
      have HBR := Lib.hid hbr
      have c1 := hbr.rows.at (rowOf_get (n := H) (f := fun y => slv (R + 1 + y) W W) (i := y) hlt2)
      clear hbr hs10
      go_wp2_with fail
      obtain ⟨wo, hwo⟩ : ∃ wo : World, wo = wr := ⟨_, rfl⟩
      rw [← hwo] at hg hk
      go_loopw [9, 25] (fun s9 s25 wq => ∃ (x : Nat) (v : Value), v = s9 ∧ x ≤ W ∧ s25 = .int .i64 (x : Int) ∧ Hid (GR wq w.heap.size 5 v ((grayList f W dk lt (y * W + x)).map u8c)) ∧ Kept [] w wq) (fun _ s _ => (W - intOf s).toNat)
      case atStart => exact ⟨0, _, rfl, by omega, rfl, Lib.hid (by rw [Nat.add_zero, ← hwo]; exact hg.out), by rw [← hwo]; exact hk⟩
      case round =>
        clear c1
        obtain ⟨x, v2, rfl, hx, rfl, hg2, hk2⟩ := hrel
        by_cases hltx : x < W
        · have hix : (x : Int) < W := by omega
          have d1 := ((HB.out.kept hk2 (by simp)).row y hlt2).at (rowOf_get (n := W) (f := fun x => .bool (f y x)) (i := x) hltx)
          have HSN := Lib.hid (grayList_snoc f W dk lt y x hltx)
          have hcap : y * W + x ≤ 90000 := by
            have h1 : y * W ≤ 299 * 300 := Nat.mul_le_mul (by omega) hW2
            omega
          have hlen : ((grayList f W dk lt (y * W + x)).map u8c).length ≤ 100000 := by rw [List.length_map, grayList_len]; omega
          have HK2 := Lib.hid hk2
          have HZ2 := Lib.hid hk2.size
          clear hcap hk2
          obtain ⟨b, hb⟩ : ∃ b, f y x = b := ⟨_, rfl⟩
          rw [hb] at d1
          have HBV := Lib.hid hb
          clear hb
          cases b
          case' false => obtain ⟨u, hu⟩ : ∃ u, u = lt := ⟨_, rfl⟩
          case' true => obtain ⟨u, hu⟩ : ∃ u, u = dk := ⟨_, rfl⟩
          all_goals
            have HU : Hid ((if f y x then dk else lt) = u) := Lib.hid (by rw [HBV.out]; simp [hu])
            have hA : Hid ((wr.alloc (.cells #[u8c u] 5)).cell? ⟨wr.heap.size, 0, none⟩ = some (u8c u)) := Lib.hid ((Blk.new wr [u8c u] 5).at (i := 0) rfl)
            have hB : Hid (w.heap.size ≤ (wr.alloc (.cells #[u8c u] 5)).heap.size) := Lib.hid (by rw [World.size_alloc]; have := HZ2.out; omega)
            have hkb : Kept [] wr (wr.alloc (.cells #[u8c u] 5)) := (Kept.refl _ _).alloc _
            have hown : Hid (GR (wr.alloc (.cells #[u8c u] 5)) w.heap.size 5 v2 ((grayList f W dk lt (y * W + x)).map u8c)) := Lib.hid (hg2.out.keeps0 hkb)
            have HKB := Lib.hid hkb
            clear hkb hg2
            rw [HU.out] at HSN
            subst hu
            go_wp2_with (at_builtin; refine app_one rfl _ _ 35 rfl 5 (.int .u8 0) 1 Tryz.underlying35 Ty.info5 rfl (by omega) w.heap.size v2 (u8c u) _ rfl hown.out wr.heap.size rfl hA.out rfl hlen hB.out ?_; intro v' w7 hgr hk7)
            have hk8 := (HK2.out.trans0 HKB.out).trans hk7 (fun x hx hl => by have := hown.out.own x hx; omega)
            go_roundw
            case rel => exact ⟨x + 1, v', rfl, by omega, by go_num, Lib.hid (by rw [← Nat.add_assoc, ← HSN.out, List.map_append]; exact hgr), hk8⟩
            case measure => simp [intOf]; omega
        · obtain rfl : x = W := by omega
          have HK2 := Lib.hid hk2
          clear hk2
          go_wp2_with fail
          go_roundw
          case rel => exact ⟨y + 1, _, rfl, by omega, fun _ => rfl, by go_num, Lib.hid (by rw [Nat.succ_mul]; exact hg2.out), HK2.out⟩
          case measure => simp [intOf]; omega
    · obtain rfl : y = H := by omega
      have hs := hs10 (by omega)
      subst hs
      go_wp2_with fail
      go_ret3
      exact ⟨⟨v, rfl, hg.out⟩, hk⟩
end

section
theorem assert156 (W : World) (v : Value) : (Go.Instr.typeAssert (.iface 156 v) 86 156 false).run Tryz.prog W = .ok v W := by kernel_rfl
set_option maxRecDepth 100000 in
set_option maxHeartbeats 1000000 in
theorem newHybrid_g {w : World} (v : Value) (t : TypeId) (u : Value) (hv : v = .iface t u) (zs : List Value)
    (H : ∀ w, Calls Tryz.prog 30 #[v] w fun e w' => (∃ B L K, e = .returned (.iface 156 (ptv B)) ∧ Blk w' B [v, .slice L 0 0, slv K 32 32] 159 ∧ Blk w' K zs 3 ∧ w.heap.size ≤ B ∧ w.heap.size ≤ K) ∧ Kept [] w w') :
    Calls Tryz.prog 31 #[v] w fun e w' => (∃ Y B L K, e = .returned (.iface 160 (ptv Y)) ∧ Blk w' Y [ptv B, .pointer none] 162 ∧ Blk w' B [v, .slice L 0 0, slv K 32 32] 159 ∧
    Blk w' K zs 3 ∧ w.heap.size ≤ Y ∧ w.heap.size ≤ B ∧ w.heap.size ≤ K) ∧ Kept [] w w' := by
  subst hv
  go_enter Tryz.func31, Tryz.ntmps31
  go_wp2_with fail
  refine (H w).mono ?_
  rintro e w1 ⟨⟨B, L, K, rfl, hb, hk, l1, l2⟩, k1⟩
  have ha := assert156 w1 (ptv B)
  have HB := Lib.hid hb
  have HK := Lib.hid hk
  have HK1 := Lib.hid k1
  clear hb hk k1
  go_wp2_with fail
  go_ret
  have hs := HK1.out.size
  exact ⟨⟨w1.heap.size, B, L, K, rfl, Blk.new _ _ _, HB.out.alloc _, HK.out.alloc _, hs, l1, l2⟩, HK1.out.alloc _⟩
theorem newHybrid_c {w : World} (v : Value) (t : TypeId) (u : Value) (hv : v = .iface t u) : Calls Tryz.prog 31 #[v] w fun e w' => (∃ Y B L K, e = .returned (.iface 160 (ptv Y)) ∧ Blk w' Y [ptv B, .pointer none] 162 ∧ Blk w' B [v, .slice L 0 0, slv K 32 32] 159 ∧
    Blk w' K (List.replicate 32 (.int .i64 0)) 3 ∧ w.heap.size ≤ Y ∧ w.heap.size ≤ B ∧ w.heap.size ≤ K) ∧ Kept [] w w' := newHybrid_g v t u hv (List.replicate 32 (.int .i64 0)) (fun w => newGlobal_c (w := w) v t u hv)
/-- What is known of a block's sum, least and greatest gray behind n of its pixels, each 0 or lt. -/
structure Avg (lt n sm mn mx : Nat) : Prop where
  sum : sm ≤ n * lt
  least : mn ≤ 255
  most : mx ≤ lt
  dark : mn < lt → sm + lt ≤ n * lt
theorem Avg.step {lt n sm mn mx p : Nat} (h : Avg lt n sm mn mx) (hp : p = 0 ∨ p = lt) (hlt : lt ≤ 255) : Avg lt (n + 1) (sm + p) (if p < mn then p else mn) (if mx < p then p else mx) := by
  obtain ⟨h1, h2, h3, h4⟩ := h
  have e : (n + 1) * lt = n * lt + lt := Nat.succ_mul n lt
  rcases hp with rfl | rfl
  · refine ⟨by omega, ?_, ?_, fun _ => by omega⟩ <;> split <;> omega
  · refine ⟨by omega, ?_, ?_, fun h => ?_⟩
    · split <;> omega
    · split <;> omega
    · split at h
      · omega
      · have := h4 h; omega
theorem Avg.more {lt n sm mn mx p : Nat} (h : Avg lt n sm mn mx) (hp : p = 0 ∨ p = lt) : Avg lt (n + 1) (sm + p) mn mx := by
  obtain ⟨h1, h2, h3, h4⟩ := h
  have e : (n + 1) * lt = n * lt + lt := Nat.succ_mul n lt
  refine ⟨?_, h2, h3, fun h => ?_⟩
  · rcases hp with rfl | rfl <;> omega
  · have := h4 h; rcases hp with rfl | rfl <;> omega
theorem Avg.start (lt : Nat) (h : lt ≤ 255) : Avg lt 0 0 255 0 := ⟨by omega, by omega, by omega, fun h => by omega⟩
/-- Where the grays differ, the average of all 64 is below the light one. -/
theorem Avg.below {lt sm mn mx : Nat} (h : Avg lt 64 sm mn mx) (hd : mn + 24 < mx) : sm / 64 < lt := by
  have h1 := h.most
  have := h.dark (by omega)
  omega
end

section
theorem grayList_at (f : Nat → Nat → Bool) (W H dk lt y x : Nat) (hy : y < H) (hx : x < W) : (grayList f W dk lt (H * W))[y * W + x]? = some (if f y x then dk else lt) := by
  have hlt : y * W + x < H * W := by
    have h1 : (y + 1) * W ≤ H * W := Nat.mul_le_mul_right _ hy
    rw [Nat.succ_mul] at h1; omega
  unfold grayList
  rw [List.getElem?_map, List.getElem?_range hlt]
  have h1 : (y * W + x) / W = y := by rw [Nat.mul_comm, Nat.mul_add_div (by omega), Nat.div_eq_of_lt hx]; omega
  have h2 : (y * W + x) % W = x := by rw [Nat.mul_comm, Nat.mul_add_mod, Nat.mod_eq_of_lt hx]
  simp [h1, h2]
theorem grayList_lt (f : Nat → Nat → Bool) (W dk lt k : Nat) (h1 : dk < 256) (h2 : lt < 256) : ∀ x ∈ grayList f W dk lt k, x < 256 := by
  intro x hx
  unfold grayList at hx
  obtain ⟨i, _, rfl⟩ := List.mem_map.1 hx
  split <;> omega
theorem m_black (b : Nat) (w : World) : (method 524 156 (.pointer (some ⟨b, 0, none⟩)) "GetBlackMatrix").run Tryz.prog w = .ok (311, .pointer (some ⟨b, 0, none⟩)) w := by kernel_rfl
theorem m_blackh (b : Nat) (w : World) : (method 524 160 (.pointer (some ⟨b, 0, none⟩)) "GetBlackMatrix").run Tryz.prog w = .ok (319, .pointer (some ⟨b, 0, none⟩)) w := by kernel_rfl
set_option maxRecDepth 100000 in
set_option maxHeartbeats 2000000 in
theorem blackGlobal_g {w : World} (v : Value) (W H : Nat) (f : Nat → Nat → Bool) (zs : List Value)
    (H29 : Calls Tryz.prog 29 #[.int .i64 (W : Int), .int .i64 (H : Int), v, .bool false] w fun e w' => (∃ S, e = .returned (.tuple #[.iface 228 (ptv S), .bool true]) ∧
      (∀ B L K w2, Kept [] w' w2 → Blk w2 B [.iface 228 (ptv S), .slice L 0 0, slv K 32 32] 159 → Blk w2 K zs 3 →
        Calls Tryz.prog 311 #[ptv B] w2 fun e w' => (∃ G C ws, e = .returned (.tuple #[ptv G, .nilIface]) ∧ GM w' G C W H ((W + 31) / 32) ws (fun y x => decide (x < W) && f y x) ∧ w2.heap.size ≤ G ∧ w2.heap.size ≤ C) ∧ Kept [B, K] w2 w')) ∧ Kept [] w w')
    (H30 : ∀ (S : Nat) (w : World), Calls Tryz.prog 30 #[.iface 228 (ptv S)] w fun e w' => (∃ B L K, e = .returned (.iface 156 (ptv B)) ∧ Blk w' B [.iface 228 (ptv S), .slice L 0 0, slv K 32 32] 159 ∧ Blk w' K zs 3 ∧ w.heap.size ≤ B ∧ w.heap.size ≤ K) ∧ Kept [] w w') :
    Calls Tryz.prog 16 #[.int .i64 (W : Int), .int .i64 (H : Int), v, .bool false] w fun e w' =>
      (∃ G C ws, e = .returned (ptv G) ∧ GM w' G C W H ((W + 31) / 32) ws (fun y x => decide (x < W) && f y x) ∧ w.heap.size ≤ G ∧ w.heap.size ≤ C) ∧ Kept [] w w' := by
  go_enter Tryz.func16, Tryz.ntmps16
  go_wp2_with fail
  refine H29.mono ?_
  rintro e w1 ⟨⟨S, rfl, H311⟩, k1⟩
  have HH := Lib.hid H311
  have HK1 := Lib.hid k1
  clear H311 k1
  go_wp2_with fail
  refine (H30 S w1).mono ?_
  rintro e w2 ⟨⟨B, L, K, rfl, hb, hk, l1, l2⟩, k2⟩
  have hbl := Lib.hid (HH.out B L K w2 k2 hb hk)
  have mb := m_black B
  have HK2 := Lib.hid k2
  clear hb hk k2
  go_wp2_with fail
  refine hbl.out.mono ?_
  rintro e w3 ⟨⟨G, C, ws, rfl, hg, g1, g2⟩, k3⟩
  have HG := Lib.hid hg
  have HK3 := Lib.hid k3
  clear hg k3 mb
  go_wp2_with fail
  go_ret
  have z1 := HK1.out.size
  have z2 := HK2.out.size
  exact ⟨⟨G, C, ws, rfl, HG.out, by omega, by omega⟩, (HK1.out.trans0 HK2.out).trans HK3.out (fun z hz hl => by simp at hz; omega)⟩
theorem blackGlobal_c {w : World} (v : Value) (base W H dk lt : Nat) (f : Nat → Nat → Bool) (hg : GR w base 5 v ((grayList f W dk lt (H * W)).map u8c)) (hW1 : 21 ≤ W) (hW2 : W ≤ 300) (hH1 : 21 ≤ H) (hH2 : H ≤ 300)
    (h1 : 128 ≤ lt) (h2 : lt < 256) (h3 : dk ≤ lt / 3) (hl : ∀ y, y < H → f y (W / 5) = false) :
    Calls Tryz.prog 16 #[.int .i64 (W : Int), .int .i64 (H : Int), v, .bool false] w fun e w' =>
      (∃ G C ws, e = .returned (ptv G) ∧ GM w' G C W H ((W + 31) / 32) ws (fun y x => decide (x < W) && f y x) ∧ w.heap.size ≤ G ∧ w.heap.size ≤ C) ∧ Kept [] w w' := by
  refine blackGlobal_g v W H f (List.replicate 32 (.int .i64 0)) ?_ (fun S w => newGlobal_c _ 228 _ rfl)
  refine (source_c v _ base hg W H (by omega) (by omega) hW2 hH2 (grayList_len _ _ _ _ _) (grayList_lt _ _ _ _ _ (by omega) h2)).mono ?_
  rintro e w1 ⟨⟨S, D, cap, rfl, hs, _, _⟩, k1⟩
  refine ⟨⟨S, rfl, fun B L K w2 k2 hB hK => ?_⟩, k1⟩
  exact globalBlack_c hB hK (hs.kept k2 (by simp) (by simp)) ⟨fun y x hy hx => grayList_at f W H dk lt y x hy hx, h1, h2, h3, hl⟩ hW1 hW2 hH1 hH2
end

section
set_option maxRecDepth 100000 in
set_option maxHeartbeats 4000000 in
theorem hybridBlack_g {w : World} {Y B S W H D cap K lt sW sH : Nat} {a : Option Addr} {gs : List Nat} {f : Nat → Nat → Bool} (hY : Blk w Y [ptv B, .pointer none] 162) (hB : Blk w B [.iface 228 (ptv S), .slice a 0 0, slv K 32 32] 159) (hS : Src w S W H D cap gs)
    (hat : ∀ y x, y < H → x < W → gs[y * W + x]? = some (if f y x then 0 else lt)) (hlt1 : 128 ≤ lt) (hlt : lt < 256) (hW : W ≤ 300) (hH : H ≤ 300) (hW1 : 40 ≤ W) (hH1 : 40 ≤ H) (hsW : sW = (W + 7) / 8) (hsH : sH = (H + 7) / 8)
    (H320 : Calls Tryz.prog 320 #[ptv Y, .slice (some ⟨D, 0, none⟩) gs.length cap, .int .i64 (sW : Int), .int .i64 (sH : Int), .int .i64 (W : Int), .int .i64 (H : Int)] w fun e w' =>
      (∃ R P, e = .returned (slv R sH sH) ∧ IP w' R sH sW lt P ∧ w.heap.size ≤ R ∧ R + sH < w'.heap.size) ∧ Kept [] w w') :
    Calls Tryz.prog 319 #[ptv Y] w fun e w' => (∃ G C ws, e = .returned (.tuple #[ptv G, .nilIface]) ∧ GM w' G C W H ((W + 31) / 32) ws (fun y x => decide (x < W) && f y x) ∧ w.heap.size ≤ G ∧ w.heap.size ≤ C) ∧ Kept [Y] w w' := by
  have y0 := hY.at (i := 0) rfl
  have y1 := hY.at (i := 1) rfl
  have HY := Lib.hid hY
  have HB := Lib.hid hB
  have HS := Lib.hid hS
  have H3 := Lib.hid H320
  have mw := m_width S
  have mh := m_height S
  have mm := m_matrix S
  have i1 : (W : Int) ≤ 300 := by omega
  have i2 : (H : Int) ≤ 300 := by omega
  have i3 : (40 : Int) ≤ W := by omega
  have i4 : (40 : Int) ≤ H := by omega
  have a1 := i64_and7 W (by omega)
  have a2 := i64_and7 H (by omega)
  clear hY hB hS H320
  go_enter Tryz.func319, Tryz.ntmps319
  go_wp2_with fail
  refine (getSource_c HB.out).mono ?_
  rintro e wx ⟨rfl, rfl⟩
  go_wp2_with fail
  refine (srcWidth_c HS.out).mono ?_
  rintro e wx ⟨rfl, rfl⟩
  go_wp2_with fail
  refine (srcHeight_c HS.out).mono ?_
  rintro e wx ⟨rfl, rfl⟩
  go_wp2_with fail
  refine (srcMatrix_c HS.out).mono ?_
  rintro e wx ⟨rfl, rfl⟩
  obtain ⟨wo, hwo⟩ : ∃ wo : World, wo = w := ⟨_, rfl⟩
  have HWO := Lib.hid hwo
  clear hwo
  have HSW := Lib.hid hsW
  have HSH := Lib.hid hsH
  clear hsW hsH
  go_upto_if 45 with fail
  go_cut [8] from 43 to 48 (fun v wx => v = .int .i64 (sW : Int) ∧ w = wx)
  case first =>
    by_cases h : W % 8 = 0
    · have e : Hid ((W : Int) / 8 = sW) := Lib.hid (by have := HSW.out; omega)
      have hi : (W : Int) % 8 = 0 := by omega
      go_wp2_with fail
      go_meet
      exact ⟨by rw [e.out], rfl⟩
    · have e : Hid ((W : Int) / 8 + 1 = sW) := Lib.hid (by have := HSW.out; omega)
      have hi : ¬ (W : Int) % 8 = 0 := by omega
      go_wp2_with fail
      go_meet
      exact ⟨by rw [e.out], rfl⟩
  case rest =>
    obtain ⟨rfl, rfl⟩ := hcut
    go_upto_if 52 with fail
    go_cut [9] from 50 to 55 (fun v wx => v = .int .i64 (sH : Int) ∧ w = wx)
    case first =>
      by_cases h : H % 8 = 0
      · have e : Hid ((H : Int) / 8 = sH) := Lib.hid (by have := HSH.out; omega)
        have hi : (H : Int) % 8 = 0 := by omega
        go_wp2_with fail
        go_meet
        exact ⟨by rw [e.out], rfl⟩
      · have e : Hid ((H : Int) / 8 + 1 = sH) := Lib.hid (by have := HSH.out; omega)
        have hi : ¬ (H : Int) % 8 = 0 := by omega
        go_wp2_with fail
        go_meet
        exact ⟨by rw [e.out], rfl⟩
    case rest =>
      obtain ⟨rfl, rfl⟩ := hcut
      clear a1 a2 mw mh mm
      go_wp2_with fail
      refine H3.out.mono ?_
      rintro e w1 ⟨⟨R, P, rfl, hip, r1, r2⟩, k1⟩
      have HIP := Lib.hid hip
      have HK1 := Lib.hid k1
      clear hip k1
      go_wp2_with fail
      refine (gmNew_c W H ((W + 31) / 32) (by omega) (by omega) (by omega) (by omega) rfl (by have : (W + 31) / 32 * H ≤ 10 * H := Nat.mul_le_mul_right _ (by omega); omega) w1).mono ?_
      rintro e w2 ⟨rfl, hG, k2⟩
      obtain ⟨rest, hd⟩ := HS.out.data
      have hdl := hd.lt
      have z1 := HK1.out.size
      have hbl := Lib.hid (blocks_c (cap := cap) (k2.blk (HK1.out.blk hd (by simp)) (by simp)) HS.out.len hat hlt hlt1 hG (by omega) (HIP.out.kept k2 (by simp)) (.inr (by omega)) (ptv Y) hW hH hW1 hH1 HSW.out HSH.out)
      have y0' := (k2.blk (HK1.out.blk HY.out (by simp)) (by simp))
      have HK2 := Lib.hid k2
      clear hG k2 hd
      go_wp2_with fail
      refine hbl.out.mono ?_
      rintro e w3 ⟨rfl, ⟨ws3, hg3⟩, k3⟩
      have hY3 := k3.blk y0' (by have := HY.out.lt; simp; omega)
      have q1 := hY3.at (i := 1) rfl
      have qf := hY3.free 1
      have HG3 := Lib.hid hg3
      have HK3 := Lib.hid k3
      have HYlt := HY.out.lt
      clear hg3 k3 hbl y0'
      go_wp2_with fail
      go_ret2
      have k4 : Kept [Y] w3 (w3.setCell ⟨Y, 1, none⟩ (ptv (w1.heap.size + 1))) := (Kept.refl [Y] w3).setCell (p := ⟨Y, 1, none⟩) (.inl (by simp)) _
      refine ⟨⟨w1.heap.size + 1, w1.heap.size, ws3, rfl, HG3.out.kept k4 (by simp; omega) (by simp; omega), by omega, by omega⟩, ?_⟩
      have b1 : Kept [Y] w w1 := HK1.out.mono (fun z hz _ => by simp at hz)
      have b2 := b1.trans0 HK2.out
      have b3 : Kept [Y] w w3 := b2.trans HK3.out (fun z hz hl => by simp at hz; omega)
      exact b3.then k4
end
end Go.Proofs.YtplpafbkalkchaaGreatDoor
