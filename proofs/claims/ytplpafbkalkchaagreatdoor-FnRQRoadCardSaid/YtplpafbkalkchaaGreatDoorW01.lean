/- Words for the heap, block by block: what a block holds, and which blocks a call may have turned. No program in sight. Small words over the program: making rows; endings. A row of the call's own that is appended to: words in terms of blocks. A region that draws its order, whose first n operations are quiet in a class of worlds and whose others stand in one forced order behind them: one walk serves. Plain laws: the few floats of the reader: whole numbers of modules and pixels. No program in sight. -/
import Derived.WalkKit
import Derived.Deep.QuietTactic
import Derived.BigQuiet
import Derived.Test.YtplpafbkalkchaaGreatDoorProg
import Derived.WalkLawsBesides
import Derived.WalkSpells
import Derived.Lib.Hide
import Derived.Outline
import Derived.KernelRfl
import Derived.Deep.RegionWith
import Derived.Deep.RegionHeld3
import Derived.StillTailTactics
import Derived.Deep.DeepFit
import Derived.Deep.LoopGhost
import Derived.Laws.AppendOwn
import Derived.ArgAppend
import Derived.StillTail
import Derived.Deep.Quiet
namespace Go.Proofs.YtplpafbkalkchaaGreatDoor
open Go Go.RowKit Go.Proofs
set_option linter.all false

section
/-- Block b is a plain row of the cells vs, of the element type T. -/
def Blk (w : World) (b : Nat) (vs : List Value) (T : TypeId) : Prop := w.heap[b]? = some (.cells vs.toArray T (0, 0))
theorem Blk.lt {w : World} {b : Nat} {vs : List Value} {T : TypeId} (h : Blk w b vs T) : b < w.heap.size := by
  unfold Blk at h
  rcases Nat.lt_or_ge b w.heap.size with h1 | h1
  · exact h1
  · rw [Array.getElem?_eq_none h1] at h; cases h
theorem Blk.cell {w : World} {b : Nat} {vs : List Value} {T : TypeId} (h : Blk w b vs T) (i : Nat) : w.cell? ⟨b, i, none⟩ = vs[i]? := by
  unfold Blk at h; simp [World.cell?, h]
theorem Blk.at {w : World} {b : Nat} {vs : List Value} {T : TypeId} (h : Blk w b vs T) {i : Nat} {v : Value} (hv : vs[i]? = some v) : w.cell? ⟨b, i, none⟩ = some v := by
  rw [h.cell, hv]
theorem Blk.free {w : World} {b : Nat} {vs : List Value} {T : TypeId} (h : Blk w b vs T) (i : Nat) : w.frozen? ⟨b, i, none⟩ = false := by
  unfold Blk at h; simp [World.frozen?, h]
theorem Blk.new (w : World) (vs : List Value) (T : TypeId) : Blk (w.alloc (.cells vs.toArray T)) w.heap.size vs T := by
  unfold Blk World.alloc; simp
theorem Blk.alloc {w : World} {b : Nat} {vs : List Value} {T : TypeId} (h : Blk w b vs T) (o : Obj) : Blk (w.alloc o) b vs T := by
  have hl := h.lt
  unfold Blk World.alloc at *
  rw [Array.getElem?_push, if_neg (by omega)]; exact h
theorem Blk.drew {w : World} {b : Nat} {vs : List Value} {T : TypeId} (h : Blk w b vs T) : Blk w.drew b vs T := h
theorem Blk.drewN {w : World} {b : Nat} {vs : List Value} {T : TypeId} (h : Blk w b vs T) (n : Nat) : Blk (w.drewN n) b vs T := h
theorem Blk.set {w : World} {b : Nat} {vs : List Value} {T : TypeId} (h : Blk w b vs T) (i : Nat) (v : Value) : Blk (w.setCell ⟨b, i, none⟩ v) b (vs.set i v) T := by
  unfold Blk World.setCell at *
  simp [Array.getElem?_modify, h]
theorem Blk.set_other {w : World} {b : Nat} {vs : List Value} {T : TypeId} (h : Blk w b vs T) {a : Addr} (ha : a.block ≠ b) (v : Value) : Blk (w.setCell a v) b vs T := by
  unfold Blk World.setCell at *
  simp only [Array.getElem?_modify]
  rw [if_neg ha]; exact h
/-- From w to w' at most the blocks of S have turned, of those that there were; none has gone. -/
structure Kept (S : List Nat) (w w' : World) : Prop where
  os : w'.os = w.os
  tape : w'.tape = w.tape
  output : w'.output = w.output
  size : w.heap.size ≤ w'.heap.size
  block : ∀ k, k < w.heap.size → k ∉ S → w'.heap[k]? = w.heap[k]?
theorem Kept.refl (S : List Nat) (w : World) : Kept S w w := ⟨rfl, rfl, rfl, Nat.le_refl _, fun _ _ _ => rfl⟩
theorem Kept.trans {S T : List Nat} {a b c : World} (h : Kept S a b) (k : Kept T b c) (hT : ∀ x, x ∈ T → x < a.heap.size → x ∈ S) : Kept S a c :=
  ⟨k.os.trans h.os, k.tape.trans h.tape, k.output.trans h.output, Nat.le_trans h.size k.size,
    fun i hi hn => (k.block i (Nat.lt_of_lt_of_le hi h.size) (fun hm => hn (hT i hm hi))).trans (h.block i hi hn)⟩
theorem Kept.trans0 {S : List Nat} {a b c : World} (h : Kept S a b) (k : Kept [] b c) : Kept S a c := h.trans k (by simp)
theorem Kept.then {S : List Nat} {a b c : World} (h : Kept S a b) (k : Kept S b c) : Kept S a c := h.trans k (fun _ h _ => h)
theorem Kept.mono {S T : List Nat} {a b : World} (h : Kept S a b) (hT : ∀ x, x ∈ S → x < a.heap.size → x ∈ T) : Kept T a b :=
  ⟨h.os, h.tape, h.output, h.size, fun i hi hn => h.block i hi (fun hm => hn (hT i hm hi))⟩
theorem Kept.alloc {S : List Nat} {a w : World} (h : Kept S a w) (o : Obj) : Kept S a (w.alloc o) :=
  h.trans (T := []) ⟨rfl, rfl, rfl, by simp, fun k hk _ => Below.heap_alloc _ _ _ hk⟩ (by simp)
theorem Kept.drew {S : List Nat} {a w : World} (h : Kept S a w) : Kept S a w.drew := ⟨h.os, h.tape, h.output, h.size, h.block⟩
theorem Kept.drewN {S : List Nat} {a w : World} (h : Kept S a w) (n : Nat) : Kept S a (w.drewN n) := ⟨h.os, h.tape, h.output, h.size, h.block⟩
/-- A store into a block of S, or into one that is younger. -/
theorem Kept.setCell {S : List Nat} {a w : World} (h : Kept S a w) {p : Addr} (hp : p.block ∈ S ∨ a.heap.size ≤ p.block) (u : Value) : Kept S a (w.setCell p u) :=
  h.trans (T := [p.block]) ⟨rfl, rfl, rfl, by simp [World.setCell], fun k _ hk => Below.heap_setCell _ _ _ _ (by simpa using hk)⟩
    (by intro x hx hl; simp at hx; subst hx; rcases hp with hp | hp; exact hp; omega)
theorem Kept.blk {S : List Nat} {w w' : World} (h : Kept S w w') {b : Nat} {vs : List Value} {T : TypeId} (hb : Blk w b vs T) (hn : b ∉ S) : Blk w' b vs T := by
  have := h.block b hb.lt hn
  unfold Blk at *; rw [this]; exact hb
theorem Kept.cell {S : List Nat} {w w' : World} (h : Kept S w w') {p : Addr} (hl : p.block < w.heap.size) (hn : p.block ∉ S) : w'.cell? p = w.cell? p :=
  World.cell?_of_block (w := w) (h.block _ hl hn)
theorem Kept.frozen {S : List Nat} {w w' : World} (h : Kept S w w') {p : Addr} (hl : p.block < w.heap.size) (hn : p.block ∉ S) : w'.frozen? p = w.frozen? p :=
  World.frozen?_of_block (w := w) (h.block _ hl hn)
/-- Of a call that only makes memory: all old cells, as the walk wants it. -/
theorem Kept.cells {w w' : World} (h : Kept [] w w') : ∀ b o, b < w.heap.size → w'.cell? ⟨b, o, none⟩ = w.cell? ⟨b, o, none⟩ := fun b o hb => h.cell (p := ⟨b, o, none⟩) hb (by simp)
theorem Kept.frees {w w' : World} (h : Kept [] w w') : ∀ b o, b < w.heap.size → w'.frozen? ⟨b, o, none⟩ = w.frozen? ⟨b, o, none⟩ := fun b o hb => h.frozen (p := ⟨b, o, none⟩) hb (by simp)
theorem Kept.below {S : List Nat} {w w' : World} (h : Kept S w w') {B : Nat} (hB : B ≤ w.heap.size) (hS : ∀ x, x ∈ S → B ≤ x) : Below B w w' :=
  ⟨h.os, h.tape, h.output, h.size, fun k hk => h.block k (by omega) (fun hm => by have := hS k hm; omega)⟩
theorem Kept.of_below {w w' : World} (h : Below w.heap.size w w') : Kept [] w w' :=
  ⟨h.os, h.tape, h.output, h.size, fun k hk _ => h.block k hk⟩
theorem add_off (b o j : Nat) : (⟨b, o, none⟩ : Addr).add j = ⟨b, o + j, none⟩ := by unfold Addr.add; split <;> simp_all
theorem add0 (b j : Nat) : (⟨b, 0, none⟩ : Addr).add j = ⟨b, j, none⟩ := by rw [add_off, Nat.zero_add]
theorem Kept.of_setRow (w : World) (g : Nat) (cs : Array Value) : Kept [g] w (w.setRow g cs) :=
  ⟨rfl, rfl, rfl, by simp [World.setRow], fun k _ hk => setRow_other w g k cs (by simpa using hk)⟩
/-- copy(d[o:], s[so:]): n cells go over. -/
theorem run_copy_blk {P : Program} {dT sT ty elem : TypeId} (hu : P.underlying dT = some (.slice elem)) (hs : (P.info? elem).map (·.size) = some 1)
    {w : World} {g s : Nat} {cur src : List Value} {Tg Ts : TypeId} (hg : Blk w g cur Tg) (hsrc : Blk w s src Ts) (o so dLen dCap sLen sCap n : Nat)
    (hn : n = Nat.min sLen dLen) (hfit : o + n ≤ cur.length) (hsfit : so + n ≤ src.length) (h1 : ∀ v ∈ src, v.oneCell' = true) :
    ∃ w1, (Builtin.copy_ #[dT, sT] ty #[.slice (some ⟨g, o, none⟩) dLen dCap, .slice (some ⟨s, so, none⟩) sLen sCap]).run P w = .ok (goInt n) w1 ∧
      Blk w1 g (cur.take o ++ (src.drop so).take n ++ cur.drop (o + n)) Tg ∧ Kept [g] w w1 := by
  have hl : ((src.drop so).take n).length = n := by simp; omega
  refine ⟨w.setRow g (cur.take o ++ (src.drop so).take n ++ cur.drop (o + n)).toArray, ?_, ?_, Kept.of_setRow w g _⟩
  · have h := run_copy_row (P := P) w dT sT ty elem g o dLen dCap ⟨s, so, none⟩ sLen sCap cur.toArray Tg ((src.drop so).take n) hu hs hg (by rw [hl, hn])
      (fun j v hv => by
        have hj : j < n := by
          rcases Nat.lt_or_ge j n with h | h
          · exact h
          · rw [List.getElem?_eq_none (by omega)] at hv; cases hv
        rw [List.getElem?_take_of_lt hj, List.getElem?_drop] at hv
        rw [add_off]; exact hsrc.at hv)
      (by simp; omega) (fun v hv => h1 v (List.mem_of_mem_drop (List.mem_of_mem_take hv)))
    rw [h, hl]
  · exact setRow_heap w g cur.toArray _ Tg (0, 0) hg
/-- A slice value over a whole block from its begin on. -/
abbrev slv (b len cap : Nat) : Value := .slice (some ⟨b, 0, none⟩) len cap
/-- A pointer to a block's begin. -/
abbrev ptv (b : Nat) : Value := .pointer (some ⟨b, 0, none⟩)
end

section
theorem ret_int {k : IntKind} {a b : Int} (h : a = b) : Ending.returned (.int k a) = .returned (.int k b) := by rw [h]
theorem ret_bool {a b : Bool} (h : a = b) : Ending.returned (.bool a) = .returned (.bool b) := by rw [h]
/-- 'make([]T, l, c)', T of one cell. -/
theorem mkslice {P : Program} {t e : TypeId} {z : Value} {bytes : Nat} (ht : P.underlying t = some (.slice e))
    (hi : (P.info? e).map (fun i => (i.zero, i.size, i.bytes)) = some (some z, 1, bytes)) (hz : z.cells = #[z]) (hb : bytes ≤ 24)
    (x y : Int) (l c : Nat) (hx : x = l) (hy : y = c) (hlc : l ≤ c) (hc : c ≤ 10000000) (w : World) :
    (Instr.makeSlice t (.int .i64 x) (.int .i64 y)).run P w = .ok (.slice (some ⟨w.heap.size, 0, none⟩) l c) (w.alloc (.cells (List.replicate c z).toArray e)) := by
  obtain ⟨i, hi, hz0, hz1, hz2⟩ := info_parts hi
  subst hx; subst hy
  have hbc : (i.bytes : Int) * (c : Int) ≤ 281474976710656 := by
    have h1 : i.bytes * c ≤ 24 * 10000000 := Nat.mul_le_mul (by omega) hc
    have h2 : ((i.bytes * c : Nat) : Int) ≤ 24 * 10000000 := by omega
    rw [Int.natCast_mul] at h2; omega
  have h := run_make (P := P) w t e i z ht hi hz0 .i64 .i64 l c (by omega) (by omega) hbc (by omega)
  rw [h, hz1, hz]
  simp only [Int.toNat_natCast, Nat.mul_one]
  congr 3
  rw [← toList_madeCells_one z c]
namespace Ty
theorem info3 : (Tryz.prog.info? 3).map (fun i => (i.zero, i.size, i.bytes)) = some (some (.int .i64 0), 1, 8) := by kernel_rfl
theorem info4 : (Tryz.prog.info? 4).map (fun i => (i.zero, i.size, i.bytes)) = some (some (.bool false), 1, 1) := by kernel_rfl
theorem info5 : (Tryz.prog.info? 5).map (fun i => (i.zero, i.size, i.bytes)) = some (some (.int .u8 0), 1, 1) := by kernel_rfl
theorem info151 : (Tryz.prog.info? 151).map (fun i => (i.zero, i.size, i.bytes)) = some (some (.int .u32 0), 1, 4) := by kernel_rfl
theorem info145 : (Tryz.prog.info? 145).map (fun i => (i.zero, i.size, i.bytes)) = some (some (.int .i8 0), 1, 1) := by kernel_rfl
theorem info57 : (Tryz.prog.info? 57).map (fun i => (i.zero, i.size, i.bytes)) = some (some (.slice none 0 0), 1, 24) := by kernel_rfl
theorem info221 : (Tryz.prog.info? 221).map (fun i => (i.zero, i.size, i.bytes)) = some (some (.slice none 0 0), 1, 24) := by kernel_rfl
theorem info157 : (Tryz.prog.info? 157).map (fun i => (i.zero, i.size, i.bytes)) = some (some (.slice none 0 0), 1, 24) := by kernel_rfl
end Ty
/-- make([]int, l, c) -/
theorem mk_ints (x y : Int) (l c : Nat) (hx : x = l) (hy : y = c) (hlc : l ≤ c) (hc : c ≤ 10000000) (w : World) :
    (Instr.makeSlice 157 (.int .i64 x) (.int .i64 y)).run Tryz.prog w = .ok (.slice (some ⟨w.heap.size, 0, none⟩) l c) (w.alloc (.cells (List.replicate c (Value.int .i64 0)).toArray 3)) :=
  mkslice Tryz.underlying157 Ty.info3 rfl (by omega) x y l c hx hy hlc hc w
/-- make([]byte, l, c) -/
theorem mk_bytes (x y : Int) (l c : Nat) (hx : x = l) (hy : y = c) (hlc : l ≤ c) (hc : c ≤ 10000000) (w : World) :
    (Instr.makeSlice 35 (.int .i64 x) (.int .i64 y)).run Tryz.prog w = .ok (.slice (some ⟨w.heap.size, 0, none⟩) l c) (w.alloc (.cells (List.replicate c (Value.int .u8 0)).toArray 5)) :=
  mkslice Tryz.underlying35 Ty.info5 rfl (by omega) x y l c hx hy hlc hc w
/-- make([]bool, l, c) -/
theorem mk_bools (x y : Int) (l c : Nat) (hx : x = l) (hy : y = c) (hlc : l ≤ c) (hc : c ≤ 10000000) (w : World) :
    (Instr.makeSlice 57 (.int .i64 x) (.int .i64 y)).run Tryz.prog w = .ok (.slice (some ⟨w.heap.size, 0, none⟩) l c) (w.alloc (.cells (List.replicate c (Value.bool false)).toArray 4)) :=
  mkslice Tryz.underlying57 Ty.info4 rfl (by omega) x y l c hx hy hlc hc w
/-- make([]uint32, l, c) -/
theorem mk_u32s (x y : Int) (l c : Nat) (hx : x = l) (hy : y = c) (hlc : l ≤ c) (hc : c ≤ 10000000) (w : World) :
    (Instr.makeSlice 148 (.int .i64 x) (.int .i64 y)).run Tryz.prog w = .ok (.slice (some ⟨w.heap.size, 0, none⟩) l c) (w.alloc (.cells (List.replicate c (Value.int .u32 0)).toArray 151)) :=
  mkslice Tryz.underlying148 Ty.info151 rfl (by omega) x y l c hx hy hlc hc w
/-- make([]int8, l, c) -/
theorem mk_i8s (x y : Int) (l c : Nat) (hx : x = l) (hy : y = c) (hlc : l ≤ c) (hc : c ≤ 10000000) (w : World) :
    (Instr.makeSlice 221 (.int .i64 x) (.int .i64 y)).run Tryz.prog w = .ok (.slice (some ⟨w.heap.size, 0, none⟩) l c) (w.alloc (.cells (List.replicate c (Value.int .i8 0)).toArray 145)) :=
  mkslice Tryz.underlying221 Ty.info145 rfl (by omega) x y l c hx hy hlc hc w
/-- make([][]bool, l, c) -/
theorem mk_rows_bool (x y : Int) (l c : Nat) (hx : x = l) (hy : y = c) (hlc : l ≤ c) (hc : c ≤ 10000000) (w : World) :
    (Instr.makeSlice 27 (.int .i64 x) (.int .i64 y)).run Tryz.prog w = .ok (.slice (some ⟨w.heap.size, 0, none⟩) l c) (w.alloc (.cells (List.replicate c (Value.slice none 0 0)).toArray 57)) :=
  mkslice Tryz.underlying27 Ty.info57 rfl (by omega) x y l c hx hy hlc hc w
/-- make([][]int8, l, c) -/
theorem mk_rows_i8 (x y : Int) (l c : Nat) (hx : x = l) (hy : y = c) (hlc : l ≤ c) (hc : c ≤ 10000000) (w : World) :
    (Instr.makeSlice 220 (.int .i64 x) (.int .i64 y)).run Tryz.prog w = .ok (.slice (some ⟨w.heap.size, 0, none⟩) l c) (w.alloc (.cells (List.replicate c (Value.slice none 0 0)).toArray 221)) :=
  mkslice Tryz.underlying220 Ty.info221 rfl (by omega) x y l c hx hy hlc hc w
/-- make([][]int, l, c) -/
theorem mk_rows_int (x y : Int) (l c : Nat) (hx : x = l) (hy : y = c) (hlc : l ≤ c) (hc : c ≤ 10000000) (w : World) :
    (Instr.makeSlice 259 (.int .i64 x) (.int .i64 y)).run Tryz.prog w = .ok (.slice (some ⟨w.heap.size, 0, none⟩) l c) (w.alloc (.cells (List.replicate c (Value.slice none 0 0)).toArray 157)) :=
  mkslice Tryz.underlying259 Ty.info157 rfl (by omega) x y l c hx hy hlc hc w
end

section
/-- The slice v is nil and xs empty, or it holds xs at the begin of a block from base on. -/
def GR (w : World) (base : Nat) (e : TypeId) (v : Value) (xs : List Value) : Prop := w.ownsRow base e 1 v xs.length xs
theorem GR.nil (w : World) (base : Nat) (e : TypeId) : GR w base e (.slice none 0 0) [] := World.ownsRow_nil w base e 1
theorem GR.open {w : World} {base : Nat} {e : TypeId} {v : Value} {xs : List Value} (h : GR w base e v xs) (hne : xs ≠ []) :
    ∃ g rest, v = .slice (some ⟨g, 0, none⟩) xs.length (xs.length + rest.length) ∧ base ≤ g ∧ Blk w g (xs ++ rest) e ∧ xs.length + rest.length ≤ maxLen := by
  obtain ⟨_, ⟨_, h0⟩ | ⟨g, cap, cur, hv, hb, hg, hn, hc, hs, ht⟩⟩ := h
  · exact absurd (List.length_eq_zero_iff.1 h0) hne
  · have hcl : cur.toList.length = cap := by rw [Array.length_toList, hs, Nat.mul_one]
    rw [Nat.mul_one] at ht
    have hd : xs ++ cur.toList.drop xs.length = cur.toList := by
      conv => lhs; rw [← ht]
      rw [List.length_take, hcl, Nat.min_eq_left hn]
      exact List.take_append_drop _ _
    refine ⟨g, cur.toList.drop xs.length, ?_, hb, ?_, ?_⟩
    · rw [hv, List.length_drop, hcl]; congr 1; omega
    · unfold Blk; rw [hd]; simpa using hg
    · rw [List.length_drop, hcl]; omega
theorem GR.mk {w : World} {base : Nat} {e : TypeId} {xs rest : List Value} {g : Nat} (hb : base ≤ g) (h : Blk w g (xs ++ rest) e) (hm : xs.length + rest.length ≤ maxLen) :
    GR w base e (.slice (some ⟨g, 0, none⟩) xs.length (xs.length + rest.length)) xs := by
  refine ⟨by simp, .inr ⟨g, _, (xs ++ rest).toArray, rfl, hb, h, by omega, hm, by simp, by simp⟩⟩
theorem GR.whole {w : World} {base : Nat} {e : TypeId} {xs : List Value} {g n : Nat} (hb : base ≤ g) (h : Blk w g xs e) (hn : xs.length = n) (hm : n ≤ maxLen) : GR w base e (slv g n n) xs := by
  subst hn
  have := GR.mk (rest := []) hb (by simpa using h) (by simpa using hm)
  simpa using this
theorem Kept.of_grown {w w' : World} {row : Option Nat} (h : w.grownBy w' row) : Kept row.toList w w' :=
  ⟨h.os, h.tape, h.output, h.size, fun k hk hn => h.block k hk (fun he => hn (by rw [← he]; simp))⟩
theorem GR.keeps {w w' : World} {base : Nat} {e : TypeId} {v : Value} {xs : List Value} {S : List Nat} (h : GR w base e v xs) (hk : Kept S w w') (hS : ∀ x ∈ S, x < base ∨ w.heap.size ≤ x) : GR w' base e v xs := by
  obtain ⟨h1, h2 | ⟨g, cap, cur, hv, hb, hg, hr⟩⟩ := h
  · exact ⟨h1, .inl h2⟩
  · have hl : g < w.heap.size := by
      rcases Nat.lt_or_ge g w.heap.size with h | h
      · exact h
      · rw [Array.getElem?_eq_none h] at hg; cases hg
    refine ⟨h1, .inr ⟨g, cap, cur, hv, hb, ?_, hr⟩⟩
    rw [hk.block g hl (fun hx => by have := hS g hx; omega)]; exact hg
theorem GR.keeps0 {w w' : World} {base : Nat} {e : TypeId} {v : Value} {xs : List Value} (h : GR w base e v xs) (hk : Kept [] w w') : GR w' base e v xs := h.keeps hk (by simp)
theorem GR.own {w : World} {base : Nat} {e : TypeId} {v : Value} {xs : List Value} (h : GR w base e v xs) : ∀ x ∈ v.ownBlock.toList, base ≤ x ∧ x < w.heap.size := by
  intro x hx
  exact World.ownsRow.lt h x (by simpa using hx)
section
variable {P : Program}
/-- append(s, a...): n elements of one cell each. -/
theorem app_many {ops : Array Oper} {rest : List Oper} {o : Oper} {a : Act} {Q : Exit → Act → World → Prop} {w : World} (hgd : o.guard = none) (s x : Operand) (t : TypeId)
    (ho : o.op = .call { callee := .builtin .append, args := #[s, x], argTypes := #[t, t] }) (e : TypeId) (z : Value) (bytes : Nat) (ht : P.underlying t = some (.slice e))
    (hi : (P.info? e).map (fun i => (i.zero, i.size, i.bytes)) = some (some z, 1, bytes)) (hz : z.cells.size = 1) (hb : bytes ≤ 24)
    (base : Nat) (v : Value) (xs news : List Value) (hs : a.eval s = v) (hown : GR w base e v xs) (A off m c : Nat) (hx : a.eval x = .slice (some ⟨A, off, none⟩) m c) (hm : news.length = m)
    (hA : ∀ j u, news[j]? = some u → w.cell? ⟨A, off + j, none⟩ = some u) (hu : ∀ u ∈ news, u.oneCell' = true) (hlen : xs.length + m ≤ 1000000) (hbase : base ≤ w.heap.size)
    (h : ∀ v' w', GR w' base e v' (xs ++ news) → Kept v.ownBlock.toList w w' → wpList P ops Q rest (a.put o.dst v') w') : wpList P ops Q (o :: rest) a w := by
  obtain ⟨i, hi, h0, h1, h2⟩ := info_parts hi
  subst hm
  refine wpList_append_own w hgd s x t ho base e i z 1 bytes ht hi h0 h1 h2 hz (by decide) v xs.length xs hs hown ⟨A, off, none⟩ news.length c news hx (by simp) (fun j u hj => by rw [add_off]; exact hA j u hj) hu (by unfold maxLen; omega) ?_ hbase ?_
  · have : (xs.length + news.length) * bytes ≤ 1000000 * 24 := Nat.mul_le_mul hlen hb
    omega
  · intro v' w' h3 h4 _
    refine h v' w' ?_ (Kept.of_grown h4)
    unfold GR
    rw [List.length_append]
    exact h3
/-- append(s, u). -/
theorem app_one {ops : Array Oper} {rest : List Oper} {o : Oper} {a : Act} {Q : Exit → Act → World → Prop} {w : World} (hgd : o.guard = none) (s x : Operand) (t : TypeId)
    (ho : o.op = .call { callee := .builtin .append, args := #[s, x], argTypes := #[t, t] }) (e : TypeId) (z : Value) (bytes : Nat) (ht : P.underlying t = some (.slice e))
    (hi : (P.info? e).map (fun i => (i.zero, i.size, i.bytes)) = some (some z, 1, bytes)) (hz : z.cells.size = 1) (hb : bytes ≤ 24)
    (base : Nat) (v u : Value) (xs : List Value) (hs : a.eval s = v) (hown : GR w base e v xs) (A : Nat) (hx : a.eval x = slv A 1 1)
    (hA : w.cell? ⟨A, 0, none⟩ = some u) (hu : u.oneCell' = true) (hlen : xs.length ≤ 100000) (hbase : base ≤ w.heap.size)
    (h : ∀ v' w', GR w' base e v' (xs ++ [u]) → Kept v.ownBlock.toList w w' → wpList P ops Q rest (a.put o.dst v') w') : wpList P ops Q (o :: rest) a w :=
  app_many hgd s x t ho e z bytes ht hi hz hb base v xs [u] hs hown A 0 1 1 hx rfl (fun j y hj => by
    match j, hj with
    | 0, hj => simp at hj; subst hj; exact hA
    | j + 1, hj => simp at hj) (by intro y hy; simp at hy; subst hy; exact hu) (by omega) hbase h
end
theorem Blk.type {w : World} {b : Nat} {us vs : List Value} {T U : TypeId} (h : Blk w b us T) (k : Blk w b vs U) : T = U := by
  unfold Blk at h k
  rw [h] at k
  injection k with k
  injection k
theorem GR.ownType {w : World} {base : Nat} {e : TypeId} {v : Value} {xs : List Value} (h : GR w base e v xs) : ∀ x ∈ v.ownBlock.toList, base ≤ x ∧ ∃ us, Blk w x us e := by
  intro x hx
  obtain ⟨_, ⟨rfl, _⟩ | ⟨g, cap, cur, rfl, hb, hg, _⟩⟩ := h
  · simp [Value.ownBlock] at hx
  · simp [Value.ownBlock] at hx
    subst hx
    exact ⟨hb, cur.toList, by unfold Blk; simpa using hg⟩
theorem Blk.keptT {w w' : World} {b : Nat} {vs : List Value} {T U : TypeId} {S : List Nat} (h : Blk w b vs T) (hk : Kept S w w') (hS : ∀ x ∈ S, ∃ us, Blk w x us U) (hne : T ≠ U) : Blk w' b vs T :=
  hk.blk h (fun hx => by obtain ⟨us, hu⟩ := hS b hx; exact hne (h.type hu))
/-- A row that fills its block C whole, or one from B on. -/
def GX (w : World) (B C : Nat) (e : TypeId) (v : Value) (xs : List Value) : Prop := (v = slv C xs.length xs.length ∧ Blk w C xs e) ∨ GR w B e v xs
section
variable {P : Program}
theorem app_gx {ops : Array Oper} {rest : List Oper} {o : Oper} {a : Act} {Q : Exit → Act → World → Prop} {w : World} (hgd : o.guard = none) (s x : Operand) (t : TypeId)
    (ho : o.op = .call { callee := .builtin .append, args := #[s, x], argTypes := #[t, t] }) (e : TypeId) (z : Value) (bytes : Nat) (ht : P.underlying t = some (.slice e))
    (hi : (P.info? e).map (fun i => (i.zero, i.size, i.bytes)) = some (some z, 1, bytes)) (hz : z.cells.size = 1) (hb : bytes ≤ 24)
    (B C : Nat) (v u : Value) (xs : List Value) (hs : a.eval s = v) (hown : GX w B C e v xs) (A : Nat) (hx : a.eval x = slv A 1 1)
    (hA : w.cell? ⟨A, 0, none⟩ = some u) (hu : u.oneCell' = true) (hlen : xs.length ≤ 100000) (hbase : B ≤ w.heap.size)
    (h : ∀ S v' w', (∀ x ∈ S, B ≤ x ∧ ∃ us, Blk w x us e) → GR w' B e v' (xs ++ [u]) → Kept S w w' → wpList P ops Q rest (a.put o.dst v') w') : wpList P ops Q (o :: rest) a w := by
  rcases hown with ⟨rfl, hC⟩ | hown
  · obtain ⟨i, hi, h0, h1, h2⟩ := info_parts hi
    refine wpList_append_grows w hgd s x t ho e i z 1 bytes ht hi h0 h1 h2 hz (by decide) (some ⟨C, 0, none⟩) xs.length xs.length xs hs (by simp) (by simp) (fun b hb j y hj => by
      injection hb with hb; subst hb; rw [add0]; exact hC.at hj) ⟨A, 0, none⟩ 1 1 [u] hx rfl (fun j y hj => by
      rw [add0]
      match j, hj with
      | 0, hj => simp at hj; subst hj; exact hA
      | j + 1, hj => simp at hj) (by intro y hy; simp at hy; subst hy; exact hu) (by omega) (by unfold maxLen; omega) ?_ ?_
    · have : (xs.length + 1) * bytes ≤ 100001 * 24 := Nat.mul_le_mul (by omega) hb
      omega
    · intro v' w' h3 h4
      refine h [] v' w' (by simp) ?_ (by simpa using Kept.of_grown h4)
      obtain ⟨e1, e2 | ⟨g, cap, cur, hv, hbg, hr⟩⟩ := h3
      · exact ⟨by simp, .inl (by simp at e2)⟩
      · exact ⟨by simp, .inr ⟨g, cap, cur, by simpa using hv, by omega, by simpa using hr⟩⟩
  · exact app_one hgd s x t ho e z bytes ht hi hz hb B v u xs hs hown A hx hA hu hlen hbase (fun v' w' h1 h2 => h _ v' w' hown.ownType h1 h2)
end
end

section
section
variable {P : Program} {ops : Array Oper} {md : Region.Mode} {C : World → Prop}
/-- Whatever order is picked among the first n operations, f of which are still to come; L of what is left. -/
def HeadQ (P : Program) (md : Region.Mode) (ops : Array Oper) (C : World → Prop) (n : Nat) (L : Array Bool → Act → Prop) : Nat → Array Bool → Act → Prop
  | 0, done, a => L done a
  | f + 1, done, a => Region.ready md ops done ≠ [] ∧ ∀ i ∈ Region.ready md ops done, i < n ∧ qOp P ops C i (HeadQ P md ops C n L f (done.setIfInBounds i true)) a
theorem HeadQ.any {n g : Nat} {L : Array Bool → Act → Prop} {Q' : Exit → Act → World → Prop} (hL : ∀ done a w, C w → L done a → wpAny P md ops Q' g done a w) :
    ∀ (f : Nat) (done : Array Bool) (a : Act) (w : World), C w → HeadQ P md ops C n L f done a → wpAny P md ops Q' (f + g) done a w := by
  intro f
  induction f with
  | zero => intro done a w hw h; rw [Nat.zero_add]; exact hL _ _ _ hw h
  | succ f ih =>
    intro done a w hw h
    have e : f + 1 + g = (f + g) + 1 := by omega
    rw [e]
    exact ⟨fun h0 => (h.1 h0).elim, fun i hi => wpOp_of_qOp hw (fun a' w' hw' h' => ih _ a' w' hw' h') (h.2 i hi).2⟩
theorem HeadQ.first {n i : Nat} {oi : Oper} {v : Value} {L : Array Bool → Act → Prop} (hi : ops[i]? = some oi) (hsel : ∀ (j : Nat) (o : Oper) cs b, ops[j]? = some o → o.op ≠ .select cs b)
    (hwait : ∀ done, HeadInv md ops n done → ∀ i, i < n → done.getD i true = false → ∀ t, n ≤ t → t ∉ Region.ready md ops done) (hin : i < n) (hend : ∀ done a, L done a → ∀ j ∈ Region.ready md ops done, n ≤ j) :
    ∀ (f : Nat) (done : Array Bool) (a : Act), HeadInv md ops n done →
      (∀ j oj, ops[j]? = some oj → j ≠ i → done.getD j true = false → (∀ e ∈ oj.after, Region.binds md e = true → e.on ≠ i) → oi.apart ops oj = true) →
      i ∈ Region.ready md ops done → YieldsIn P ops C oi v a →
      HeadQ P md ops C n L f (done.setIfInBounds i true) (a.put oi.dst v) → HeadQ P md ops C n L (f + 1) done a := by
  intro f
  induction f with
  | zero =>
    intro done a inv _ hr hy H
    have hun := (mem_ready.1 hr).1
    refine ⟨(fun h => by rw [h] at hr; cases hr), fun j hj => ?_⟩
    have hjn : j < n := Nat.lt_of_not_le fun h => hwait done inv i hin hun j h hj
    refine ⟨hjn, ?_⟩
    by_cases e : j = i
    · subst e; exact hy.qOp hi H
    · have := hend _ _ H j (ready_mono hj e); omega
  | succ f ih =>
    intro done a inv hfree hr hy H
    have hun := (mem_ready.1 hr).1
    refine ⟨(fun h => by rw [h] at hr; cases hr), fun j hj => ?_⟩
    have hjn : j < n := Nat.lt_of_not_le fun h => hwait done inv i hin hun j h hj
    refine ⟨hjn, ?_⟩
    by_cases e : j = i
    · subst e; exact hy.qOp hi H
    · obtain ⟨hjun, oj, hoj, hall⟩ := mem_ready.1 hj
      have hno : ∀ x ∈ oj.after, Region.binds md x = true → x.on ≠ i := fun x hx hb hq => by
        have h1 := hall x hx hb
        rw [hq, getD_both hun] at h1; cases h1
      have h2 := qOp_put hoj (hfree j oj hoj e hjun hno) (fun cs b => hsel i oi cs b hi) (fun cs b => hsel j oj cs b hoj) hy (H.2 j (ready_mono hj e)).2
      refine qOp_mono (fun a' h3 => ih (done.setIfInBounds j true) a' (inv.set hj hjn) (fun k ok hk hki hku hkn => ?_) (ready_mono hr (Ne.symm e)) h3.1 ?_) h2
      · refine hfree k ok hk hki ?_ hkn
        by_cases q : j = k
        · subst q; exact hjun
        · rw [getD_set_ne true q] at hku; exact hku
      · rw [Array.setIfInBounds_comm _ _ e]; exact h3.2
theorem HeadQ.lex {n g : Nat} {R : Act → Prop} (hsel : Region.noSelect ops = true) (hs : Region.sinkB md ops n = true) (hc : Region.chainB md ops n = true) (hn : n < ops.size) :
    ∀ (l : List Oper) (k : Nat) (done : Array Bool) (a : Act), (∀ j, j < l.length → l[j]? = ops[k + j]?) → k + l.length = n → HeadInv md ops n done →
    Region.lexHead md ops g l.length k done = true → wpQuiet P ops C R l a → HeadQ P md ops C n (fun d a' => Region.seqB md ops g n d = true ∧ R a') l.length done a := by
  intro l
  induction l with
  | nil =>
    intro k done a _ hk _ hB h
    obtain rfl : k = n := by simpa using hk
    exact ⟨by simpa [Region.lexHead] using hB, h⟩
  | cons o l ih =>
    intro k done a hl hk inv hB h
    have h0 : ops[k]? = some o := by simpa using (hl 0 (by simp)).symm
    simp only [List.length_cons, Region.lexHead, Bool.and_eq_true] at hB
    obtain ⟨⟨hr, hf⟩, hB'⟩ := hB
    have hkn : k < n := by simp only [List.length_cons] at hk; omega
    have hr' : k ∈ Region.ready md ops done := by simpa using hr
    have hst : qOp P ops C k (wpQuiet P ops C R l) a := by unfold qOp; simp only [h0]; exact h
    obtain ⟨v, hy, hK⟩ := yieldsIn_of_qOp h0 hst
    exact HeadQ.first h0 (Region.noSelect_spec hsel) (fun d inv i hi hu => tail_waits hs hc hn inv _ i rfl hi hu) hkn (fun d a' hL => seqB_ready hL.1) l.length done a inv (Region.free_spec h0 hf) hr' hy
      (ih (k + 1) _ _ (fun j hj => by have := hl (j + 1) (by simp; omega); simpa [Nat.add_assoc, Nat.add_comm 1 j] using this) (by simp only [List.length_cons] at hk; omega) (inv.set hr' hkn) hB' hK)
theorem region_quiet_tail {id : Nat} {Q : Exit → Act → World → Prop} {a : Act} {w : World} {l : List Oper} (n : Nat) (hm : P.follows .mixedOrders = true) (hB : Region.lexTailB .any l.toArray n = true)
    (h : wpQuiet P l.toArray (fun w' => ∃ k, w' = w.drewN k) (fun a' => ∀ w', (∃ k, w' = w.drewN k) → wpList P l.toArray Q (l.drop n) a' w') (l.take n) a) : (Code.region id l.toArray true).wp P Q a w := by
  simp only [Region.lexTailB, Bool.and_eq_true, decide_eq_true_eq] at hB
  obtain ⟨⟨⟨⟨hsel, hn⟩, hs⟩, hc⟩, hlex⟩ := hB
  have hn' : n < l.length := by simpa using hn
  have htl : (l.take n).length = n := by simp; omega
  have hdl : (l.drop n).length = l.toArray.size - n := by simp
  have inv0 : HeadInv .any l.toArray n (Array.replicate l.toArray.size false) :=
    ⟨by simp, (fun j oj _ hl => by rw [getD_replicate_false] at hl; cases hl), fun t _ ht => getD_in (by simpa using ht) (getD_replicate_false _ _)⟩
  have H := HeadQ.lex (C := fun w' => ∃ k, w' = w.drewN k) (md := .any) (g := l.toArray.size - n) hsel hs hc hn (l.take n) 0 _ a (fun j hj => by
    have hj' : j < n := by rw [htl] at hj; exact hj
    simp [hj']) (by simpa using htl) inv0 (by rw [htl]; exact hlex) h
  refine wp_region_any hm ?_
  have h1 : ∃ k, ({ w with drawn := w.drawn + 1 } : World) = w.drewN k := ⟨1, rfl⟩
  have := HeadQ.any (Q' := Q) (g := l.toArray.size - n) (fun d a' w' hw' hL => by
    have h2 := wpAny_of_seq (md := .any) (Q' := Q) (l.drop n) n d a' w' (fun j => by simp [List.getElem?_drop]) (by rw [hdl]; exact hL.1) (hL.2 w' hw')
    rw [hdl] at h2; exact h2) _ _ _ _ h1 H
  rw [htl, show n + (l.toArray.size - n) = l.toArray.size by omega] at this
  exact this
end
/-- On by K at the end, by Q at every other exit. -/
def Mid (Q : Exit → Act → World → Prop) (K : Act → World → Prop) : Exit → Act → World → Prop
  | .normal, a, w => K a w
  | .exit i, a, w => Q (.exit i) a w
  | .goto l, a, w => Q (.goto l) a w
  | .ret, a, w => Q .ret a w
  | .panic c, a, w => Q (.panic c) a w
  | .outgrown, a, w => Q .outgrown a w
section
variable {P : Program} {ops : Array Oper} {md : Region.Mode} {C : World → Prop}
theorem upon_mid {Q : Exit → Act → World → Prop} {K : Act → World → Prop} {o : Oper} {a : Act} {next : Act → World → Prop} (r : Result Next) : o.upon P a next (Mid Q K) r = o.upon P a next Q r := by
  cases r with
  | ok n w => cases n <;> rfl
  | halt h w => cases h <;> rfl
/-- One forced order, g more behind it in any. -/
def seqThenB (md : Region.Mode) (ops : Array Oper) (g : Nat) : Nat → Nat → Array Bool → Bool
  | 0, k, done => Region.lexFrom md ops g k done
  | f + 1, k, done => decide (Region.ready md ops done = [k]) && seqThenB md ops g f (k + 1) (done.setIfInBounds k true)
theorem any_of_mid {Q : Exit → Act → World → Prop} {K : Act → World → Prop} {g : Nat} (hK : ∀ k done a w, Region.lexFrom md ops g k done = true → k + g = ops.size → K a w → wpAny P md ops Q g done a w) :
    ∀ (l : List Oper) (k : Nat) (done : Array Bool) (a : Act) (w : World), (∀ j, j < l.length → l[j]? = ops[k + j]?) → k + l.length + g = ops.size → seqThenB md ops g l.length k done = true → wpList P ops (Mid Q K) l a w →
      wpAny P md ops Q (l.length + g) done a w := by
  intro l
  induction l with
  | nil =>
    intro k done a w _ hs hB h
    rw [List.length_nil, Nat.zero_add]
    exact hK k done a w hB (by simpa using hs) h
  | cons o l ih =>
    intro k done a w hl hs hB h
    have h0 : ops[k]? = some o := by simpa using (hl 0 (by simp)).symm
    simp only [List.length_cons, seqThenB, Bool.and_eq_true, decide_eq_true_eq] at hB
    rw [List.length_cons, show l.length + 1 + g = (l.length + g) + 1 by omega]
    refine ⟨fun h1 => (by rw [hB.1] at h1; cases h1), fun i hi => ?_⟩
    rw [hB.1] at hi
    obtain rfl : i = k := by simpa using hi
    have step : ∀ a' w', wpList P ops (Mid Q K) l a' w' → wpAny P md ops Q (l.length + g) (done.setIfInBounds i true) a' w' := fun a' w' h' =>
      ih (i + 1) _ a' w' (fun j hj => by have := hl (j + 1) (by simp; omega); simpa [Nat.add_assoc, Nat.add_comm 1 j] using this) (by simp only [List.length_cons] at hs; omega) hB.2 h'
    unfold wpOp
    simp only [h0]
    unfold wpList at h
    by_cases hw : Region.wanted o (yielded ops a.tmps) = true
    · rw [if_pos hw] at h ⊢
      rcases h with h | h
      · left
        have h2 : o.wp P a w (wpList P ops (Mid Q K) l) Q := by unfold Oper.wp at h ⊢; rw [upon_mid] at h; exact h
        exact Oper.wp_mono step h2
      · exact .inr h
    · rw [if_neg hw] at h ⊢
      exact step _ _ h
/-- The first n quiet, the next m - n in one forced order, the rest quiet. -/
def midB (md : Region.Mode) (ops : Array Oper) (n m : Nat) : Bool :=
  Region.noSelect ops && decide (n < m) && decide (m ≤ ops.size) && Region.sinkB md ops n &&
  ((List.range ops.size).all fun t => decide (t ≤ n) || (List.range t).any fun j => decide (n ≤ j) && Region.waitsFor md ops t j) &&
  lexHd md ops (fun d => seqThenB md ops (ops.size - m) (m - n) n d) n 0 (Array.replicate ops.size false)
where lexHd (md : Region.Mode) (ops : Array Oper) (T : Array Bool → Bool) : Nat → Nat → Array Bool → Bool
  | 0, _, done => T done
  | f + 1, k, done => (Region.ready md ops done).contains k && Region.free md ops done k && lexHd md ops T f (k + 1) (done.setIfInBounds k true)
theorem mid_waits {n m : Nat} {done : Array Bool} (hs : Region.sinkB md ops n = true) (hc : ((List.range ops.size).all fun t => decide (t ≤ n) || (List.range t).any fun j => decide (n ≤ j) && Region.waitsFor md ops t j) = true) (hn : n < ops.size)
    (inv : HeadInv md ops n done) : ∀ (d i : Nat), n - i = d → i < n → done.getD i true = false → ∀ t, n ≤ t → t ∉ Region.ready md ops done := by
  intro d
  induction d using Nat.strongRecOn with
  | _ d ih =>
    intro i hd hi hun t ht hr
    obtain ⟨_, ot, hot, hall⟩ := mem_ready.1 hr
    have htl : t < ops.size := (Array.getElem?_eq_some_iff.1 hot).1
    rcases Nat.eq_or_lt_of_le ht with rfl | hlt
    · have h1 := List.all_eq_true.1 hs i (List.mem_range.2 hi)
      obtain ⟨j, hj, hj2⟩ := List.any_eq_true.1 h1
      simp only [Bool.and_eq_true, decide_eq_true_eq] at hj2
      obtain ⟨oj, hoj, e, he, hb, hon⟩ := Region.waitsFor_spec hj2.2
      have hjle : j ≤ n := by have := List.mem_range.1 hj; omega
      by_cases hjn : j = n
      · subst hjn
        obtain rfl : oj = ot := Option.some.inj (hoj.symm.trans hot)
        have h2 := hall e he hb
        rw [hon, getD_both hun] at h2; cases h2
      · cases hl : done.getD j false with
        | true =>
          have h2 := inv.closed j oj hoj hl e he hb
          rw [hon, getD_both hun] at h2; cases h2
        | false => exact ih (n - j) (by omega) j rfl (by omega) (getD_in (by rw [inv.size]; omega) hl) n (Nat.le_refl _) hr
    · have h1 := List.all_eq_true.1 hc t (List.mem_range.2 htl)
      simp only [Bool.or_eq_true, decide_eq_true_eq] at h1
      rcases h1 with h1 | h1
      · omega
      · obtain ⟨j, hj, hj2⟩ := List.any_eq_true.1 h1
        simp only [Bool.and_eq_true, decide_eq_true_eq] at hj2
        obtain ⟨o', ho', e, he, hb, hon⟩ := Region.waitsFor_spec hj2.2
        obtain rfl : o' = ot := Option.some.inj (ho'.symm.trans hot)
        have h2 := hall e he hb
        have hjt := List.mem_range.1 hj
        rw [hon, getD_both (inv.tail j hj2.1 (by omega))] at h2; cases h2
theorem HeadQ.lexHd {n : Nat} {T : Array Bool → Bool} {R : Act → Prop} (hsel : Region.noSelect ops = true) (hwait : ∀ done, HeadInv md ops n done → ∀ i, i < n → done.getD i true = false → ∀ t, n ≤ t → t ∉ Region.ready md ops done)
    (hend : ∀ d, T d = true → ∀ j ∈ Region.ready md ops d, n ≤ j) :
    ∀ (l : List Oper) (k : Nat) (done : Array Bool) (a : Act), (∀ j, j < l.length → l[j]? = ops[k + j]?) → k + l.length = n → HeadInv md ops n done →
    midB.lexHd md ops T l.length k done = true → wpQuiet P ops C R l a → HeadQ P md ops C n (fun d a' => T d = true ∧ R a') l.length done a := by
  intro l
  induction l with
  | nil => intro k done a _ hk _ hB h; exact ⟨by simpa [midB.lexHd] using hB, h⟩
  | cons o l ih =>
    intro k done a hl hk inv hB h
    have h0 : ops[k]? = some o := by simpa using (hl 0 (by simp)).symm
    simp only [List.length_cons, midB.lexHd, Bool.and_eq_true] at hB
    obtain ⟨⟨hr, hf⟩, hB'⟩ := hB
    have hkn : k < n := by simp only [List.length_cons] at hk; omega
    have hr' : k ∈ Region.ready md ops done := by simpa using hr
    have hst : qOp P ops C k (wpQuiet P ops C R l) a := by unfold qOp; simp only [h0]; exact h
    obtain ⟨v, hy, hK⟩ := yieldsIn_of_qOp h0 hst
    exact HeadQ.first h0 (Region.noSelect_spec hsel) hwait hkn (fun d a' hL => hend d hL.1) l.length done a inv (Region.free_spec h0 hf) hr' hy
      (ih (k + 1) _ _ (fun j hj => by have := hl (j + 1) (by simp; omega); simpa [Nat.add_assoc, Nat.add_comm 1 j] using this) (by simp only [List.length_cons] at hk; omega) (inv.set hr' hkn) hB' hK)
/-- A region whose first n operations are quiet, whose next ones up to m stand in one forced order, and whose rest is quiet. -/
theorem region_mid {id : Nat} {Q : Exit → Act → World → Prop} {a : Act} {w : World} {l : List Oper} (n m : Nat) (hm : P.follows .mixedOrders = true) (hB : midB .any l.toArray n m = true)
    (h : wpQuiet P l.toArray (fun w' => ∃ k, w' = w.drewN k) (fun a1 => ∀ w1, (∃ k, w1 = w.drewN k) →
      wpList P l.toArray (Mid Q fun a2 w2 => wpQuiet P l.toArray (fun w' => ∃ k, w' = w2.drewN k) (fun a3 => ∀ w3, (∃ k, w3 = w2.drewN k) → Q .normal a3 w3) (l.drop m) a2) ((l.drop n).take (m - n)) a1 w1) (l.take n) a) :
    (Code.region id l.toArray true).wp P Q a w := by
  simp only [midB, Bool.and_eq_true, decide_eq_true_eq] at hB
  obtain ⟨⟨⟨⟨⟨hsel, hnm⟩, hml⟩, hs⟩, hc⟩, hlex⟩ := hB
  have hml' : m ≤ l.length := by simpa using hml
  have hn : n < l.toArray.size := by simp; omega
  have htl : (l.take n).length = n := by simp; omega
  have inv0 : HeadInv .any l.toArray n (Array.replicate l.toArray.size false) :=
    ⟨by simp, (fun j oj _ hl => by rw [getD_replicate_false] at hl; cases hl), fun t _ ht => getD_in (by simpa using ht) (getD_replicate_false _ _)⟩
  have H := HeadQ.lexHd (T := fun d => seqThenB .any l.toArray (l.toArray.size - m) (m - n) n d) (C := fun w' => ∃ k, w' = w.drewN k) (md := .any) hsel (fun d inv i hi hu => mid_waits (m := m) hs hc hn inv _ i rfl hi hu) (fun d hd j hj => by
    have hd : seqThenB .any l.toArray (l.toArray.size - m) (m - n) n d = true := hd
    rw [show m - n = (m - n - 1) + 1 by omega] at hd
    simp only [seqThenB, Bool.and_eq_true, decide_eq_true_eq] at hd
    rw [hd.1] at hj
    have : j = n := by simpa using hj
    omega) (l.take n) 0 _ a (fun j hj => by
      have hj' : j < n := by rw [htl] at hj; exact hj
      simp [hj']) (by simpa using htl) inv0 (by rw [htl]; exact hlex) h
  refine wp_region_any hm ?_
  have hmid : ((l.drop n).take (m - n)).length = m - n := by simp; omega
  have hdl : (l.drop m).length = l.toArray.size - m := by simp
  have := HeadQ.any (Q' := Q) (g := l.toArray.size - n) (fun d a' w' hw' hL => by
    have h2 := any_of_mid (P := P) (md := .any) (ops := l.toArray) (Q := Q) (g := l.toArray.size - m) (K := fun a2 w2 => wpQuiet P l.toArray (fun w' => ∃ k, w' = w2.drewN k) (fun a3 => ∀ w3, (∃ k, w3 = w2.drewN k) → Q .normal a3 w3) (l.drop m) a2)
      (fun k done a2 w2 hlx hk hK => by
        have hkm : k = m := by have : m ≤ l.toArray.size := hml; omega
        subst hkm
        have h3 := wpAnyQ_lex (P := P) (md := .any) (C := fun w' => ∃ k, w' = w2.drewN k) hsel (l.drop k) k done a2 (fun j => by simp [List.getElem?_drop]) (by rw [hdl]; exact hlx) hK
        rw [hdl] at h3
        exact wpAny_of_quiet (Q := fun a3 => ∀ w3, (∃ k, w3 = w2.drewN k) → Q .normal a3 w3) (fun _ w'' hw'' h => h w'' hw'') _ _ _ _ ⟨0, rfl⟩ h3)
      ((l.drop n).take (m - n)) n d a' w' (fun j hj => by rw [hmid] at hj; rw [List.getElem?_take_of_lt hj]; simp [List.getElem?_drop]) (by rw [hmid]; have : m ≤ l.toArray.size := hml; omega) (by rw [hmid]; exact hL.1) (hL.2 w' hw')
    rw [hmid, show m - n + (l.toArray.size - m) = l.toArray.size - n by omega] at h2
    exact h2) _ _ _ _ ⟨1, rfl⟩ H
  rw [htl, show n + (l.toArray.size - n) = l.toArray.size by omega] at this
  exact this
end
/-- A callee that leaves the world alone, in a quiet region. -/
theorem quiet_same {P : Program} {f : FuncId} {args : Array Value} {w : World} {n : Nat} {v : Value} (h : Calls P f args (w.drewN n) fun e w' => e = .returned v ∧ w.drewN n = w') :
    Calls P f args (w.drewN n) fun e w'' => e = .returned v ∧ ∃ m, w'' = w.drewN m := h.mono fun _ _ ⟨he, hm⟩ => ⟨he, n, hm.symm⟩
end

section
/-- The bits of a whole number as a float. -/
def fl (n : Nat) : Nat := floatOfInt .f64 (n : Int)
def flHalf : Nat := 4602678819172646912
def flTwo : Nat := 4611686018427387904
def flSeven : Nat := 4619567317775286272
def cut? (o : Option Nat) : Option Int := match o with
  | some r => floatToIntVal .f64 r .i64
  | none => none
theorem cut_some {o : Option Nat} {n : Int} (h : cut? o = some n) : ∃ r, o = some r ∧ floatToIntVal .f64 r .i64 = some n := by
  cases o with
  | none => cases h
  | some r => exact ⟨r, rfl, h⟩
theorem all_lt {n : Nat} {p : Nat → Bool} (h : (List.range n).all p = true) (i : Nat) (hi : i < n) : p i = true := by
  rw [List.all_eq_true] at h; exact h i (List.mem_range.2 hi)
theorem fl_seven (m : Nat) (h : m < 14) : floatBits .quo .f64 (fl (7 * m)) flSeven = some (fl m) := by
  have H : (List.range 14).all (fun m => floatBits .quo .f64 (fl (7 * m)) flSeven == some (fl m)) = true := by kernel_rfl
  exact beq_iff_eq.1 (all_lt H m h)
theorem fl_quo (m n : Nat) (h : m < 14) (h1 : 1 ≤ m) (hn : n < 46) : floatBits .quo .f64 (fl (n * m)) (fl m) = some (fl n) := by
  have H : (List.range 14).all (fun m => decide (m = 0) || (List.range 46).all fun n => floatBits .quo .f64 (fl (n * m)) (fl m) == some (fl n)) = true := by kernel_rfl
  have h2 := all_lt H m h
  rw [Bool.or_eq_true, decide_eq_true_iff] at h2
  rcases h2 with h2 | h2
  · omega
  · exact beq_iff_eq.1 (all_lt h2 n hn)
theorem fl_round (n : Nat) (h : n < 46) : (FloatKind.f64.format.order (fl n) 0 == some .lt) = false ∧ ∃ r, floatBits .add .f64 (fl n) flHalf = some r ∧ floatToIntVal .f64 r .i64 = some (n : Int) := by
  have H : (List.range 46).all (fun n => !(FloatKind.f64.format.order (fl n) 0 == some .lt) && cut? (floatBits .add .f64 (fl n) flHalf) == some (n : Int)) = true := by kernel_rfl
  have h2 := all_lt H n h
  rw [Bool.and_eq_true, Bool.not_eq_true', beq_iff_eq] at h2
  exact ⟨h2.1, cut_some h2.2⟩
theorem fl_half (m : Nat) (h : m < 14) : ∃ r, floatBits .quo .f64 (fl m) flTwo = some r ∧ floatToIntVal .f64 r .i64 = some ((m / 2 : Nat) : Int) := by
  have H : (List.range 14).all (fun m => cut? (floatBits .quo .f64 (fl m) flTwo) == some ((m / 2 : Nat) : Int)) = true := by kernel_rfl
  exact cut_some (beq_iff_eq.1 (all_lt H m h))
theorem fl_mul (m k : Nat) (h : m < 14) (hk : k < 46) : ∃ r, floatBits .mul .f64 (fl k) (fl m) = some r ∧ floatToIntVal .f64 r .i64 = some ((k * m : Nat) : Int) := by
  have H : (List.range 14).all (fun m => (List.range 46).all fun k => cut? (floatBits .mul .f64 (fl k) (fl m)) == some ((k * m : Nat) : Int)) = true := by kernel_rfl
  exact cut_some (beq_iff_eq.1 (all_lt (all_lt H m h) k hk))
end
end Go.Proofs.YtplpafbkalkchaaGreatDoor
