/-
  SLICES OF FIELDS: how they lie ('ZF', 'Z5', 'HasZ'); THE WALKS OF ZZField, toField, toTemplate, toTuple: a copy in new memory, nil where it was nil.
-/
import Derived.Test.Qxb6602860aRows
import Derived.WalkKit
import Derived.WalkSpells
import Derived.WalkLawsBesides
import Derived.Laws.StructEq
import Derived.Lib.SliceRun
namespace Go.Proofs.Qxb6602860a
open Go.RowKit

/-- A float in a cell is stored as an integer is. -/
theorem run_store_float {P : Program} {w : World} {a : Addr} {m : Mode} (k : FloatKind) (n : Nat) : (store a (.float k n) m).run P w = stored P w a (.float k n) m := run_store P w a _ m rfl
attribute [local go_sem] run_store_float

/-- A field, as the program lays it: five cells. -/
structure ZF where
  k : Int
  b : Bool
  i : Int
  f : Nat
  s : ByteArray

def ZF.agg (z : ZF) : Value := .agg #[.int .u8 z.k, .bool z.b, .int .i64 z.i, .float .f64 z.f, .string z.s]

set_option maxHeartbeats 400000 in
theorem zzfield_any (k : Int) (b : Bool) (i : Int) (f : Nat) (s : ByteArray) (w : World) :
    Calls Try.prog 25 #[.int .u8 k, .bool b, .int .i64 i, .float .f64 f, .string s] w fun e w' => e = .returned (.agg #[.int .u8 k, .bool b, .int .i64 i, .float .f64 f, .string s]) ∧ w.alloc (.cells #[.int .u8 k, .bool b, .int .i64 i, .float .f64 f, .string s] 44) = w' := by
  go_enter Try.func25, Try.ntmps25
  go_wp2
  exact bodyPost_ret (v := .agg #[.int .u8 k, .bool b, .int .i64 i, .float .f64 f, .string s]) (by simp [results, Try.results25, go_sem]) rfl ⟨rfl, rfl⟩

set_option maxHeartbeats 400000 in
theorem tofield_any (k : Int) (b : Bool) (i : Int) (f : Nat) (s : ByteArray) (w : World) :
    Calls Try.prog 20 #[.agg #[.int .u8 k, .bool b, .int .i64 i, .float .f64 f, .string s]] w fun e w' => e = .returned (.agg #[.int .u8 k, .bool b, .int .i64 i, .float .f64 f, .string s]) ∧ Below w.heap.size w w' := by
  go_enter Try.func20, Try.ntmps20
  go_wp2_with (go_at_call 25; refine (zzfield_any k b i f s _).mono ?_; rintro e w1 ⟨rfl, rfl⟩)
  exact bodyPost_ret (v := .agg #[.int .u8 k, .bool b, .int .i64 i, .float .f64 f, .string s]) (by simp [results, Try.results20, go_sem]) rfl ⟨rfl, (((Below.refl _ _).alloc (Nat.le_refl _) _).alloc (by simp) _).alloc (by rw [World.size_alloc, World.size_alloc]; omega) _⟩

/-- Is the float a NaN: unequal to itself? -/
def nanB (f : Nat) : Bool := FloatKind.f64.format.order f f != some .eq

theorem run_equalIn_float {P : Program} (w : World) (d : Nat) (t : TypeId) (k k' : FloatKind) (a b : Nat) (h : P.underlying t = some (.float k')) : (Op.equalIn (d + 1) t (.float k a) (.float k b)).run P w = .ok (k.format.order a b == some .eq) w := by
  simp [Op.equalIn, run_underlying h, Op.floatEq]
attribute [local go_sem] run_equalIn_float

/-- A field against itself: unequal just where its float is a NaN. -/
theorem neq44 (k : Int) (b : Bool) (i : Int) (f : Nat) (s : ByteArray) (w : World) :
    (binOp .neq 44 (.agg #[.int .u8 k, .bool b, .int .i64 i, .float .f64 f, .string s]) (.agg #[.int .u8 k, .bool b, .int .i64 i, .float .f64 f, .string s])).run Try.prog w = .ok (.bool (nanB f)) w := by
  unfold nanB
  rcases h : (FloatKind.f64.format.order f f == some .eq) with _ | _
  · simp [go_sem, h, bne]
  · simp [go_sem, h, bne]

theorem Try.info44 : (Try.prog.info? 44).map (fun i => (i.zero, i.size, i.bytes)) = some (some (.agg #[.int .u8 0, .bool false, .int .i64 0, .float .f64 0, .string ByteArray.empty]), 5, 40) := by kernel_rfl

theorem make39 (wx : World) (n : Nat) (hn : n ≤ 65536) : ∃ arr : Array Value, arr.size = n * 5 ∧
    (Instr.makeSlice 39 (.int .i64 n) (.int .i64 n)).run Try.prog wx = .ok (.slice (some ⟨wx.heap.size, 0, none⟩) n n) (wx.alloc (.cells arr 44)) := by
  obtain ⟨i0, hi, hz0, hz1, hz2⟩ := info_parts Try.info44
  have h := run_make (P := Try.prog) wx 39 44 i0 _ Try.underlying39 hi hz0 .i64 .i64 n n (by omega) (by omega) (by rw [hz2]; omega) (by omega)
  simp only [Int.toNat_natCast] at h
  exact ⟨_, by rw [size_madeCells, hz1], h⟩

theorem make37 (wx : World) (n : Nat) (hn : n ≤ 65536) : ∃ arr : Array Value, arr.size = n * 5 ∧
    (Instr.makeSlice 37 (.int .i64 n) (.int .i64 n)).run Try.prog wx = .ok (.slice (some ⟨wx.heap.size, 0, none⟩) n n) (wx.alloc (.cells arr 44)) := by
  obtain ⟨i0, hi, hz0, hz1, hz2⟩ := info_parts Try.info44
  have h := run_make (P := Try.prog) wx 37 44 i0 _ Try.underlying37 hi hz0 .i64 .i64 n n (by omega) (by omega) (by rw [hz2]; omega) (by omega)
  simp only [Int.toNat_natCast] at h
  exact ⟨_, by rw [size_madeCells, hz1], h⟩

/-- The five cells of a field. -/
structure Z5 (w : World) (g off : Nat) (z : ZF) : Prop where
  k : w.cell? ⟨g, off, none⟩ = some (.int .u8 z.k)
  b : w.cell? ⟨g, off + 1, none⟩ = some (.bool z.b)
  i : w.cell? ⟨g, off + 2, none⟩ = some (.int .i64 z.i)
  f : w.cell? ⟨g, off + 3, none⟩ = some (.float .f64 z.f)
  s : w.cell? ⟨g, off + 4, none⟩ = some (.string z.s)

/-- Where a slice with the address ao begins lie the n fields Z; nil has none. -/
def HasZ (w : World) (ao : Option Addr) (n : Nat) (Z : Nat → ZF) : Prop :=
  (ao = none → n = 0) ∧ (n = 0 ∨ ∃ b off, ao = some ⟨b, off, none⟩ ∧ b < w.heap.size ∧ ∀ j, j < n → Z5 w b (off + j * 5) (Z j))

/-- A field stored into a row. -/
def put5 (w : World) (g o : Nat) (z : ZF) : World :=
  ((((w.setCell ⟨g, o, none⟩ (.int .u8 z.k)).setCell ⟨g, o + 1, none⟩ (.bool z.b)).setCell ⟨g, o + 2, none⟩ (.int .i64 z.i)).setCell ⟨g, o + 3, none⟩ (.float .f64 z.f)).setCell ⟨g, o + 4, none⟩ (.string z.s)

theorem put5_row {wx : World} {g o m : Nat} {ar : Array Value} (h : wx.heap[g]? = some (.cells ar 44 (0, 0))) (hs : ar.size = m) (z : ZF) :
    ∃ ar' : Array Value, ar'.size = m ∧ (put5 wx g o z).heap[g]? = some (.cells ar' 44 (0, 0)) :=
  ⟨_, by simpa using hs, heap_setCell_same _ _ _ _ _ _ (heap_setCell_same _ _ _ _ _ _ (heap_setCell_same _ _ _ _ _ _ (heap_setCell_same _ _ _ _ _ _ (heap_setCell_same _ _ _ _ _ _ h))))⟩

theorem put5_below {B g o : Nat} {a wx : World} (h : Below B a wx) (hg : B ≤ g) (z : ZF) : Below B a (put5 wx g o z) :=
  ((((h.setCell (p := ⟨g, o, none⟩) hg _).setCell (p := ⟨g, o + 1, none⟩) hg _).setCell (p := ⟨g, o + 2, none⟩) hg _).setCell (p := ⟨g, o + 3, none⟩) hg _).setCell (p := ⟨g, o + 4, none⟩) hg _

theorem set_in (w : World) (g a b : Nat) (v : Value) : (w.setCell ⟨g, a, none⟩ v).cell? ⟨g, b, none⟩ = if a = b then (w.cell? ⟨g, b, none⟩).map (fun _ => v) else w.cell? ⟨g, b, none⟩ := by
  by_cases h : a = b
  · subst h
    rw [if_pos rfl]
    rcases hc : w.cell? ⟨g, a, none⟩ with _ | y
    · rcases hd : (w.setCell ⟨g, a, none⟩ v).cell? ⟨g, a, none⟩ with _ | u
      · rfl
      · exfalso
        simp only [World.setCell, World.cell?, Array.getElem?_modify, if_true] at hc hd
        rcases hh : w.heap[g]? with _ | o
        · rw [hh] at hd; simp at hd
        · rw [hh] at hc hd
          cases o <;> simp_all
    · exact World.cell?_setCell_same _ _ _ hc
  · rw [if_neg h]
    exact World.cell?_setCell_other _ _ _ _ (fun e => by injection e with _ e2 _; exact h e2)

theorem put5_other {wx : World} {g o o' : Nat} (z : ZF) (h : o' < o ∨ o + 5 ≤ o') : (put5 wx g o z).cell? ⟨g, o', none⟩ = wx.cell? ⟨g, o', none⟩ := by
  unfold put5
  rw [set_in, if_neg (by omega), set_in, if_neg (by omega), set_in, if_neg (by omega), set_in, if_neg (by omega), set_in, if_neg (by omega)]

theorem put5_in {wx : World} {g o : Nat} (h : ∀ c, c < 5 → ∃ y, wx.cell? ⟨g, o + c, none⟩ = some y) (z : ZF) : Z5 (put5 wx g o z) g o z := by
  obtain ⟨y0, h0⟩ := h 0 (by omega)
  obtain ⟨y1, h1⟩ := h 1 (by omega)
  obtain ⟨y2, h2⟩ := h 2 (by omega)
  obtain ⟨y3, h3⟩ := h 3 (by omega)
  obtain ⟨y4, h4⟩ := h 4 (by omega)
  rw [Nat.add_zero] at h0
  unfold put5
  constructor
  · rw [set_in, if_neg (by omega), set_in, if_neg (by omega), set_in, if_neg (by omega), set_in, if_neg (by omega), set_in, if_pos rfl, h0]; rfl
  · rw [set_in, if_neg (by omega), set_in, if_neg (by omega), set_in, if_neg (by omega), set_in, if_pos rfl, set_in, if_neg (by omega), h1]; rfl
  · rw [set_in, if_neg (by omega), set_in, if_neg (by omega), set_in, if_pos rfl, set_in, if_neg (by omega), set_in, if_neg (by omega), h2]; rfl
  · rw [set_in, if_neg (by omega), set_in, if_pos rfl, set_in, if_neg (by omega), set_in, if_neg (by omega), set_in, if_neg (by omega), h3]; rfl
  · rw [set_in, if_pos rfl, set_in, if_neg (by omega), set_in, if_neg (by omega), set_in, if_neg (by omega), set_in, if_neg (by omega), h4]; rfl

theorem z5_old {w w' : World} {g o : Nat} {z : ZF} (h : Z5 w g o z) (hc : ∀ c, c < 5 → w'.cell? ⟨g, o + c, none⟩ = w.cell? ⟨g, o + c, none⟩) : Z5 w' g o z :=
  ⟨(hc 0 (by omega)).trans h.k, (hc 1 (by omega)).trans h.b, (hc 2 (by omega)).trans h.i, (hc 3 (by omega)).trans h.f, (hc 4 (by omega)).trans h.s⟩

theorem z5_next {wr wx : World} {g k : Nat} {Z : Nat → ZF} {z : ZF} (hg : g < wr.heap.size) (hb : Below wr.heap.size wr wx) (hz : Z k = z) (h : ∀ j, j < k → Z5 wr g (j * 5) (Z j))
    (hy : ∀ c, c < 5 → ∃ y, wx.cell? ⟨g, k * 5 + c, none⟩ = some y) : ∀ j, j < k + 1 → Z5 (put5 wx g (k * 5) z) g (j * 5) (Z j) := by
  intro j hj
  by_cases e : j = k
  · subst e; rw [hz]; exact put5_in hy z
  · refine z5_old (h j (by omega)) fun c hc => ?_
    rw [put5_other z (by omega), hb.cell (p := ⟨g, j * 5 + c, none⟩) hg]

set_option maxHeartbeats 400000 in
theorem totemplate_any (ao : Option Addr) (n cap : Nat) (Z : Nat → ZF) (w : World) (hn : n ≤ 65536) (h : HasZ w ao n Z) :
    Calls Try.prog 18 #[.slice ao n cap] w fun e w' => ∃ ao', e = .returned (.slice ao' n n) ∧ HasZ w' ao' n Z ∧ Below w.heap.size w w' := by
  have q : ∀ (w : World) (a : Option Addr) (n c n' c' : Nat), (binOp .eql 30 (.slice a n c) (.slice none n' c')).run Try.prog w = .ok (.bool a.isNone) w := fun w a n c n' c' => Lib.run_eql_slice_nil w 30 35 a n c n' c' Try.underlying30
  obtain ⟨h1, h2⟩ := h
  cases ao with
  | none =>
    obtain rfl := h1 rfl
    go_enter Try.func18, Try.ntmps18
    go_wp2
    go_ret
    exact ⟨none, rfl, ⟨fun _ => rfl, .inl rfl⟩, Below.refl _ _⟩
  | some x =>
    obtain ⟨arr, ha, hmk⟩ := make39 w n hn
    clear h1
    rcases h2 with rfl | ⟨b, off, hx, hlt, hc⟩
    · have hmk0 : (Instr.makeSlice 39 (.int .i64 0) (.int .i64 0)).run Try.prog w = .ok (.slice (some ⟨w.heap.size, 0, none⟩) 0 0) (w.alloc (.cells arr 44)) := hmk
      clear hmk
      go_enter Try.func18, Try.ntmps18
      go_wp2
      refine wp_loop_rounds 1 ?_
      rw [rounds_succ]
      go_wp2
      go_ret
      exact ⟨_, rfl, ⟨fun _ => rfl, .inl rfl⟩, (Below.refl _ _).alloc (Nat.le_refl _) _⟩
    · obtain rfl : x = ⟨b, off, none⟩ := by simpa using hx
      have HA : Hid (arr.size = n * 5) := ha
      clear ha hx
      go_enter Try.func18, Try.ntmps18
      go_wp2
      go_loopw [4] (fun i wr => ∃ (k : Nat) (ar : Array Value), k ≤ n ∧ i = .int .i64 k ∧ Hid (ar.size = n * 5) ∧ wr.heap[w.heap.size]? = some (.cells ar 44 (0, 0)) ∧ Below w.heap.size w wr ∧ Hid (∀ j, j < k → Z5 wr w.heap.size (j * 5) (Z j))) (fun i _ => n - (intOf i).toNat)
      case atStart => exact ⟨0, arr, Nat.zero_le _, rfl, HA, heap_alloc_new w _, (Below.refl _ _).alloc (Nat.le_refl _) _, (fun _ h => by omega)⟩
      case round =>
        obtain ⟨k, ar, hk, rfl, HS, hblk, hbel, HK⟩ := hrel
        by_cases hkl : k < n
        · obtain ⟨c1, c2, c3, c4, c5⟩ := hc k hkl
          have d1 := (hbel.cell (p := ⟨b, off + k * 5, none⟩) hlt).trans c1
          have d2 := (hbel.cell (p := ⟨b, off + k * 5 + 1, none⟩) hlt).trans c2
          have d3 := (hbel.cell (p := ⟨b, off + k * 5 + 2, none⟩) hlt).trans c3
          have d4 := (hbel.cell (p := ⟨b, off + k * 5 + 3, none⟩) hlt).trans c4
          have d5 := (hbel.cell (p := ⟨b, off + k * 5 + 4, none⟩) hlt).trans c5
          clear hmk hc
          obtain ⟨z, hz⟩ : ∃ z, Z k = z := ⟨_, rfl⟩
          rw [hz] at d1 d2 d3 d4 d5
          have HZ : Hid (Z k = z) := hz
          clear hz c1 c2 c3 c4 c5
          go_wp2_with fail
          refine (tofield_any z.k z.b z.i z.f z.s wr).mono ?_
          rintro e wx ⟨rfl, hbx⟩
          have hgl : w.heap.size < wr.heap.size := lt_of_block hblk
          have hblx : wx.heap[w.heap.size]? = some (.cells ar 44 (0, 0)) := (hbx.block _ hgl).trans hblk
          have hy : ∀ c, c < 5 → ∃ y, wx.cell? ⟨w.heap.size, k * 5 + c, none⟩ = some y := fun c hc => by
            rw [cell_of_row wx w.heap.size _ ar 44 (0, 0) hblx]
            exact ⟨_, Array.getElem?_eq_getElem (by rw [HS.out]; omega)⟩
          have hfr : ∀ o, wx.frozen? ⟨w.heap.size, o, none⟩ = false := fun o => frozen_of_row wx _ o ar 44 hblx
          obtain ⟨y0, hy0⟩ := hy 0 (by omega)
          obtain ⟨y1, hy1⟩ := hy 1 (by omega)
          obtain ⟨y2, hy2⟩ := hy 2 (by omega)
          obtain ⟨y3, hy3⟩ := hy 3 (by omega)
          obtain ⟨y4, hy4⟩ := hy 4 (by omega)
          rw [Nat.add_zero] at hy0
          have Hy : Hid (∀ c, c < 5 → ∃ y, wx.cell? ⟨w.heap.size, k * 5 + c, none⟩ = some y) := hy
          clear hy d1 d2 d3 d4 d5
          go_wp2
          obtain ⟨ar', hs', hr'⟩ := put5_row (o := k * 5) hblx HS.out z
          go_roundw
          case rel =>
            refine ⟨k + 1, ar', by omega, by go_num, hs', hr', put5_below (hbel.trans (hbx.mono hbel.size)) (Nat.le_refl _) z, fun j hj => ?_⟩
            exact z5_next hgl hbx HZ.out HK.out Hy.out j hj
          case measure => simp [intOf]; omega
        · obtain rfl : k = n := by omega
          go_wp2
          go_ret
          exact ⟨_, rfl, ⟨(fun h => by cases h), .inr ⟨w.heap.size, 0, rfl, lt_of_block hblk, fun j hj => by rw [Nat.zero_add]; exact HK.out j hj⟩⟩, hbel⟩

set_option maxHeartbeats 400000 in
theorem totuple_any (ao : Option Addr) (n cap : Nat) (Z : Nat → ZF) (w : World) (hn : n ≤ 65536) (h : HasZ w ao n Z) :
    Calls Try.prog 17 #[.slice ao n cap] w fun e w' => ∃ ao', e = .returned (.slice ao' n n) ∧ HasZ w' ao' n Z ∧ Below w.heap.size w w' := by
  have q : ∀ (w : World) (a : Option Addr) (n c n' c' : Nat), (binOp .eql 30 (.slice a n c) (.slice none n' c')).run Try.prog w = .ok (.bool a.isNone) w := fun w a n c n' c' => Lib.run_eql_slice_nil w 30 35 a n c n' c' Try.underlying30
  obtain ⟨h1, h2⟩ := h
  cases ao with
  | none =>
    obtain rfl := h1 rfl
    go_enter Try.func17, Try.ntmps17
    go_wp2
    go_ret
    exact ⟨none, rfl, ⟨fun _ => rfl, .inl rfl⟩, Below.refl _ _⟩
  | some x =>
    obtain ⟨arr, ha, hmk⟩ := make37 w n hn
    clear h1
    rcases h2 with rfl | ⟨b, off, hx, hlt, hc⟩
    · have hmk0 : (Instr.makeSlice 37 (.int .i64 0) (.int .i64 0)).run Try.prog w = .ok (.slice (some ⟨w.heap.size, 0, none⟩) 0 0) (w.alloc (.cells arr 44)) := hmk
      clear hmk
      go_enter Try.func17, Try.ntmps17
      go_wp2
      refine wp_loop_rounds 1 ?_
      rw [rounds_succ]
      go_wp2
      go_ret
      exact ⟨_, rfl, ⟨fun _ => rfl, .inl rfl⟩, (Below.refl _ _).alloc (Nat.le_refl _) _⟩
    · obtain rfl : x = ⟨b, off, none⟩ := by simpa using hx
      have HA : Hid (arr.size = n * 5) := ha
      clear ha hx
      go_enter Try.func17, Try.ntmps17
      go_wp2
      go_loopw [4] (fun i wr => ∃ (k : Nat) (ar : Array Value), k ≤ n ∧ i = .int .i64 k ∧ Hid (ar.size = n * 5) ∧ wr.heap[w.heap.size]? = some (.cells ar 44 (0, 0)) ∧ Below w.heap.size w wr ∧ Hid (∀ j, j < k → Z5 wr w.heap.size (j * 5) (Z j))) (fun i _ => n - (intOf i).toNat)
      case atStart => exact ⟨0, arr, Nat.zero_le _, rfl, HA, heap_alloc_new w _, (Below.refl _ _).alloc (Nat.le_refl _) _, (fun _ h => by omega)⟩
      case round =>
        obtain ⟨k, ar, hk, rfl, HS, hblk, hbel, HK⟩ := hrel
        by_cases hkl : k < n
        · obtain ⟨c1, c2, c3, c4, c5⟩ := hc k hkl
          have d1 := (hbel.cell (p := ⟨b, off + k * 5, none⟩) hlt).trans c1
          have d2 := (hbel.cell (p := ⟨b, off + k * 5 + 1, none⟩) hlt).trans c2
          have d3 := (hbel.cell (p := ⟨b, off + k * 5 + 2, none⟩) hlt).trans c3
          have d4 := (hbel.cell (p := ⟨b, off + k * 5 + 3, none⟩) hlt).trans c4
          have d5 := (hbel.cell (p := ⟨b, off + k * 5 + 4, none⟩) hlt).trans c5
          clear hmk hc
          obtain ⟨z, hz⟩ : ∃ z, Z k = z := ⟨_, rfl⟩
          rw [hz] at d1 d2 d3 d4 d5
          have HZ : Hid (Z k = z) := hz
          clear hz c1 c2 c3 c4 c5
          go_wp2_with fail
          refine (tofield_any z.k z.b z.i z.f z.s wr).mono ?_
          rintro e wx ⟨rfl, hbx⟩
          have hgl : w.heap.size < wr.heap.size := lt_of_block hblk
          have hblx : wx.heap[w.heap.size]? = some (.cells ar 44 (0, 0)) := (hbx.block _ hgl).trans hblk
          have hy : ∀ c, c < 5 → ∃ y, wx.cell? ⟨w.heap.size, k * 5 + c, none⟩ = some y := fun c hc => by
            rw [cell_of_row wx w.heap.size _ ar 44 (0, 0) hblx]
            exact ⟨_, Array.getElem?_eq_getElem (by rw [HS.out]; omega)⟩
          have hfr : ∀ o, wx.frozen? ⟨w.heap.size, o, none⟩ = false := fun o => frozen_of_row wx _ o ar 44 hblx
          obtain ⟨y0, hy0⟩ := hy 0 (by omega)
          obtain ⟨y1, hy1⟩ := hy 1 (by omega)
          obtain ⟨y2, hy2⟩ := hy 2 (by omega)
          obtain ⟨y3, hy3⟩ := hy 3 (by omega)
          obtain ⟨y4, hy4⟩ := hy 4 (by omega)
          rw [Nat.add_zero] at hy0
          have Hy : Hid (∀ c, c < 5 → ∃ y, wx.cell? ⟨w.heap.size, k * 5 + c, none⟩ = some y) := hy
          clear hy d1 d2 d3 d4 d5
          go_wp2
          obtain ⟨ar', hs', hr'⟩ := put5_row (o := k * 5) hblx HS.out z
          go_roundw
          case rel =>
            refine ⟨k + 1, ar', by omega, by go_num, hs', hr', put5_below (hbel.trans (hbx.mono hbel.size)) (Nat.le_refl _) z, fun j hj => ?_⟩
            exact z5_next hgl hbx HZ.out HK.out Hy.out j hj
          case measure => simp [intOf]; omega
        · obtain rfl : k = n := by omega
          go_wp2
          go_ret
          exact ⟨_, rfl, ⟨(fun h => by cases h), .inr ⟨w.heap.size, 0, rfl, lt_of_block hblk, fun j hj => by rw [Nat.zero_add]; exact HK.out j hj⟩⟩, hbel⟩
end Go.Proofs.Qxb6602860a
