/-
  A SLICE OF BYTES THAT CAME IN ('IsRow', 'Has'), AND THE WALK OF zzCloneEnd: a copy in new memory, nil where it was nil.
-/
import Derived.Test.Qxb6603640aRows
import Derived.Test.Qxb6603640aOrder
import Derived.WalkKit
import Derived.WalkSpells
import Derived.WalkLawsBesides
import Derived.Laws.IdiomStrings
import Derived.Deep.QuietTactic
import Derived.BigQuiet
import Derived.OpenShut
import Derived.Lib.SliceRun
namespace Go.Proofs.Qxb6603640a
open Go.RowKit
open Go.Op (bytesLess)

theorem Try.info5 : (Try.prog.info? 5).map (fun i => (i.zero, i.size, i.bytes)) = some (some (.int .u8 0), 1, 1) := by kernel_rfl

/-- WHAT THE WALK IS TOLD OF A SLICE OF INTEGERS THAT CAME IN: it is nil; or it leads to a row of 'cap' cells, the numbers 'zs' (the first 'len' are its elements, the rest its spare room), each fitting its kind. -/
def IsRow (k : IntKind) (w : World) (a : Option Addr) (len cap : Nat) (zs : List Int) : Prop :=
  (a = none ∧ len = 0 ∧ cap = 0 ∧ zs = []) ∨
  ∃ x, a = some x ∧ len ≤ cap ∧ cap ≤ maxLen ∧ zs.length = cap ∧ (∀ i, i < zs.length → w.cell? (x.add i) = some (.int k (zs.getD i 0))) ∧ ∀ n ∈ zs, (Lit.int k n).wf = true

/-- The bytes l lie in w where a slice with the address ao begins; nil has none. -/
def Has (w : World) (ao : Option Addr) (l : List UInt8) : Prop :=
  (ao = none → l = []) ∧ (l = [] ∨ ∃ b off, ao = some ⟨b, off, none⟩ ∧ b < w.heap.size ∧ ∀ j (hj : j < l.length), w.cell? ⟨b, off + j, none⟩ = some (.int .u8 l[j].toNat))

theorem Has.later {w w' : World} {ao : Option Addr} {l : List UInt8} (h : Has w ao l) (hb : Below w.heap.size w w') : Has w' ao l := by
  refine ⟨h.1, ?_⟩
  rcases h.2 with h2 | ⟨b, off, e, hlt, hc⟩
  · exact .inl h2
  · exact .inr ⟨b, off, e, Nat.lt_of_lt_of_le hlt hb.size, fun j hj => by rw [hb.cell (p := ⟨b, off + j, none⟩) hlt]; exact hc j hj⟩

theorem has_of {w : World} {ao : Option Addr} {n cap : Nat} {zs : List Int} (h : IsRow .u8 w ao n cap zs) : ∃ l : List UInt8, l.length = n ∧ Has w ao l := by
  rcases h with ⟨rfl, rfl, rfl, rfl⟩ | ⟨x, rfl, h1, h2, h3, h4, h5⟩
  · exact ⟨[], rfl, fun _ => rfl, .inl rfl⟩
  · refine ⟨(zs.take n).map fun z => UInt8.ofNat z.toNat, by simp; omega, (fun h => by cases h), ?_⟩
    by_cases h0 : n = 0
    · left; simp [h0]
    · right
      obtain ⟨b, off, rfl, hc⟩ := ints_at h4 (by omega)
      refine ⟨b, off, rfl, World.block_lt_of_cell? w ⟨b, off + 0, none⟩ (hc 0 (by omega)), fun j hj => ?_⟩
      have hj1 : j < n := by simp at hj; omega
      have hj2 : j < zs.length := by omega
      have hb := bounds_u8 (h5 zs[j] (List.getElem_mem hj2))
      rw [hc j hj2, List.getD_eq_getElem?_getD, List.getElem?_eq_getElem hj2]
      simp only [List.getElem_map, List.getElem_take, Option.getD_some]
      rw [UInt8.toNat_ofNat']
      congr 2
      omega

theorem make_run (wx : World) (n : Nat) (hn : n ≤ 1048576) : ∃ arr : Array Value, arr.size = n ∧
    (Instr.makeSlice 22 (.int .i64 n) (.int .i64 n)).run Try.prog wx = .ok (.slice (some ⟨wx.heap.size, 0, none⟩) n n) (wx.alloc (.cells arr 5)) := by
  obtain ⟨i0, hi, hz0, hz1, hz2⟩ := info_parts Try.info5
  have h := run_make (P := Try.prog) wx 22 5 i0 (.int .u8 0) Try.underlying22 hi hz0 .i64 .i64 n n (by omega) (by omega) (by rw [hz2]; omega) (by omega)
  simp only [Int.toNat_natCast] at h
  exact ⟨_, by rw [size_madeCells, hz1]; omega, h⟩

theorem set_step {ar : Array Value} {l : List UInt8} {k : Nat} (hs : ar.size = l.length) (h : ∀ j (hj : j < l.length), j < k → ar[j]? = some (.int .u8 l[j].toNat)) (hk : k < l.length) :
    ∀ j (hj : j < l.length), j < k + 1 → (ar.setIfInBounds k (.int .u8 l[k].toNat))[j]? = some (.int .u8 l[j].toNat) := by
  intro j hj hjk
  rw [Array.getElem?_setIfInBounds]
  by_cases e : k = j
  · subst e; rw [if_pos rfl, if_pos (by omega)]
  · rw [if_neg e]; exact h j hj (by omega)

set_option maxHeartbeats 400000 in
theorem clone_any (ao : Option Addr) (l : List UInt8) (cap : Nat) (w : World) (hl : l.length ≤ 1048576) (h : Has w ao l) :
    Calls Try.prog 7 #[.slice ao l.length cap] w fun e w' => ∃ ao', e = .returned (.slice ao' l.length l.length) ∧ (ao' = none ↔ ao = none) ∧ Has w' ao' l ∧ Below w.heap.size w w' := by
  have q : ∀ (w : World) (a : Option Addr) (n c n' c' : Nat), (binOp .eql 22 (.slice a n c) (.slice none n' c')).run Try.prog w = .ok (.bool a.isNone) w := fun w a n c n' c' => Lib.run_eql_slice_nil w 22 5 a n c n' c' Try.underlying22
  obtain ⟨h1, h2⟩ := h
  cases ao with
  | none =>
    obtain rfl := h1 rfl
    go_enter Try.func7, Try.ntmps7
    go_wp2
    go_ret
    exact ⟨none, rfl, by simp, ⟨fun _ => rfl, .inl rfl⟩, Below.refl _ _⟩
  | some x =>
    obtain ⟨arr, ha, hmk⟩ := make_run w l.length hl
    clear h1
    rcases h2 with rfl | ⟨b, off, hx, hlt, hc⟩
    · have hmk0 : (Instr.makeSlice 22 (.int .i64 0) (.int .i64 0)).run Try.prog w = .ok (.slice (some ⟨w.heap.size, 0, none⟩) 0 0) (w.alloc (.cells arr 5)) := hmk
      clear hmk
      go_enter Try.func7, Try.ntmps7
      go_wp2
      refine wp_loop_rounds 1 ?_
      rw [rounds_succ]
      go_wp2
      go_ret
      exact ⟨_, rfl, by simp, ⟨fun _ => rfl, .inl rfl⟩, (Below.refl _ _).alloc (Nat.le_refl _) _⟩
    · obtain rfl : x = ⟨b, off, none⟩ := by simpa using hx
      have HA : Hid (arr.size = l.length) := ha
      clear ha hx
      go_enter Try.func7, Try.ntmps7
      go_wp2
      go_loopw [4] (fun i wr => ∃ (k : Nat) (ar : Array Value), k ≤ l.length ∧ i = .int .i64 k ∧ Hid (ar.size = l.length) ∧ Hid (∀ j (hj : j < l.length), j < k → ar[j]? = some (.int .u8 l[j].toNat)) ∧ wr = w.alloc (.cells ar 5)) (fun i _ => l.length - (intOf i).toNat)
      case atStart => exact ⟨0, arr, Nat.zero_le _, rfl, HA, (fun _ _ h => by omega), rfl⟩
      case round =>
        obtain ⟨k, ar, hk, rfl, HS, HK, rfl⟩ := hrel
        by_cases hkl : k < l.length
        · have c1 := hc k hkl
          obtain ⟨y, hy⟩ : ∃ y, ar[k]? = some y := ⟨_, Array.getElem?_eq_getElem (by rw [HS.out]; exact hkl)⟩
          clear hmk hc
          go_wp2
          go_roundw
          case rel => exact ⟨k + 1, ar.setIfInBounds k (.int .u8 l[k].toNat), by omega, by go_num, by simpa [Hid] using HS.out, set_step HS.out HK.out hkl, rfl⟩
          case measure => simp [intOf]; omega
        · obtain rfl : k = l.length := by omega
          go_wp2
          go_ret
          refine ⟨_, rfl, by simp, ⟨(fun h => by cases h), .inr ⟨w.heap.size, 0, rfl, by simp, fun j hj => ?_⟩⟩, (Below.refl _ _).alloc (Nat.le_refl _) _⟩
          rw [Nat.zero_add, World.cell?_alloc_new]
          exact HK.out j hj hj

/-- An end as a value: nil, or a slice that is not nil and holds its bytes. -/
def End (w : World) (v : Value) (e : Option (List UInt8)) : Prop :=
  (e = none ∧ v = .slice none 0 0) ∨ ∃ x l cap, e = some l ∧ v = .slice (some x) l.length cap ∧ Has w (some x) l

theorem End.later {w w' : World} {v : Value} {e : Option (List UInt8)} (h : End w v e) (hb : Below w.heap.size w w') : End w' v e := by
  rcases h with h | ⟨x, l, cap, h1, h2, h3⟩
  · exact .inl h
  · exact .inr ⟨x, l, cap, h1, h2, h3.later hb⟩

theorem has_cells {w : World} {x : Addr} {l : List UInt8} (h : Has w (some x) l) : ∀ j (hj : j < l.length), w.cell? (x.add j) = some (.int .u8 (l[j].toNat : Int)) := by
  intro j hj
  rcases h.2 with rfl | ⟨b, off, e, _, hc⟩
  · simp at hj
  · obtain rfl : x = ⟨b, off, none⟩ := by simpa using e
    have hadd : (⟨b, off, none⟩ : Addr).add j = ⟨b, off + j, none⟩ := by unfold Addr.add; split <;> simp_all
    rw [hadd]
    exact hc j hj

set_option maxHeartbeats 400000 in
/-- laterEnd answers the later end. -/
theorem later_any (va vb : Value) (ea eb : Option (List UInt8)) (w : World) (ha : End w va ea) (hb : End w vb eb) :
    Calls Try.prog 16 #[va, vb] w fun e w' => ∃ v, e = .returned v ∧ End w v (later ea eb) ∧ w = w' := by
  have q : ∀ (w : World) (a : Option Addr) (n c n' c' : Nat), (binOp .eql 22 (.slice a n c) (.slice none n' c')).run Try.prog w = .ok (.bool a.isNone) w := fun w a n c n' c' => Lib.run_eql_slice_nil w 22 5 a n c n' c' Try.underlying22
  have q2 : ∀ (w : World) (a : Option Addr) (n c n' c' : Nat), (binOp .neq 22 (.slice a n c) (.slice none n' c')).run Try.prog w = .ok (.bool !a.isNone) w := fun w a n c n' c' => run_neq_slice_nil_any w 22 5 a n c n' c' Try.underlying22
  rcases ha with ⟨rfl, rfl⟩ | ⟨x, l, cap, rfl, rfl, hx⟩
  · have HB : Hid (End w vb eb) := hb
    clear hb
    go_enter Try.func16, Try.ntmps16
    go_wp2
    go_ret
    exact ⟨_, rfl, .inl ⟨rfl, rfl⟩, rfl⟩
  · rcases hb with ⟨rfl, rfl⟩ | ⟨y, m, cap2, rfl, rfl, hy⟩
    · have HX : Hid (Has w (some x) l) := hx
      clear hx
      go_enter Try.func16, Try.ntmps16
      go_wp2
      go_ret
      exact ⟨_, rfl, .inl ⟨rfl, rfl⟩, rfl⟩
    · have c1 := run_convert_bytes_back (P := Try.prog) w 22 9 5 x cap l Try.underlying22 Try.underlying5 Try.underlying9 (has_cells hx)
      have c2 := run_convert_bytes_back (P := Try.prog) w 22 9 5 y cap2 m Try.underlying22 Try.underlying5 Try.underlying9 (has_cells hy)
      have HX : Hid (Has w (some x) l) := hx
      have HY : Hid (Has w (some y) m) := hy
      clear hx hy
      have e1 : (ByteArray.mk l.toArray).toList = l := by rw [ByteArray.toList_eq]
      have e2 : (ByteArray.mk m.toArray).toList = m := by rw [ByteArray.toList_eq]
      rcases h : bytesLess l m with _ | _
      · go_enter Try.func16, Try.ntmps16
        go_wp2
        go_ret
        exact ⟨_, rfl, .inr ⟨x, l, cap, by simp [later, h], rfl, HX.out⟩, rfl⟩
      · go_enter Try.func16, Try.ntmps16
        go_wp2
        go_ret
        exact ⟨_, rfl, .inr ⟨y, m, cap2, by simp [later, h], rfl, HY.out⟩, rfl⟩

set_option maxHeartbeats 400000 in
theorem zzlater_any (va vb : Value) (ea eb : Option (List UInt8)) (w : World) (ha : End w va ea) (hb : End w vb eb) :
    Calls Try.prog 8 #[va, vb] w fun e w' => ∃ v, e = .returned v ∧ End w v (later ea eb) ∧ w = w' := by
  have HA : Hid (End w va ea) := ha
  have HB : Hid (End w vb eb) := hb
  clear ha hb
  go_enter Try.func8, Try.ntmps8
  go_wp2_with (go_at_call 16; refine (later_any va vb ea eb _ HA.out HB.out).mono ?_; rintro e w1 ⟨v, rfl, hv, rfl⟩)
  go_ret
  exact ⟨v, rfl, hv, rfl⟩


theorem take_next {x y : List UInt8} {k : Nat} (h : x.take k = y.take k) (hx : k < x.length) (hy : k < y.length) (e : x[k] = y[k]) : x.take (k + 1) = y.take (k + 1) := by
  rw [List.take_succ_eq_append_getElem hx, List.take_succ_eq_append_getElem hy, h, e]

theorem differ_at {x y : List UInt8} {k : Nat} (hx : k < x.length) (hy : k < y.length) (e : x[k] ≠ y[k]) : x ≠ y := by
  intro h; subst h; exact e rfl

set_option maxHeartbeats 1000000 in
/-- zzSameBytes: are the bytes the same? -/
theorem same_any (ax : Option Addr) (x : List UInt8) (cx : Nat) (ay : Option Addr) (y : List UInt8) (cy : Nat) (w : World) (hx : Has w ax x) (hy : Has w ay y) (hl2 : y.length ≤ 1048576) :
    Calls Try.prog 9 #[.slice ax x.length cx, .slice ay y.length cy] w fun e w' => e = .returned (.bool (decide (x = y))) ∧ ∃ nq, w' = w.drewN nq := by
  have HX : Hid (Has w ax x) := hx
  have HY : Hid (Has w ay y) := hy
  clear hx hy
  by_cases hlen : x.length = y.length
  · obtain ⟨n, hn⟩ : ∃ n, y.length = n := ⟨_, rfl⟩
    have hn' : x.length = n := hlen.trans hn
    have HN : Hid (x.length = n) := hn'
    have HN2 : Hid (y.length = n) := hn
    rw [hn, hn']
    rw [hn] at hl2
    clear hlen hn hn'
    go_enter Try.func9, Try.ntmps9
    go_wp2
    go_loopw [5] (fun i wr => ∃ k nq : Nat, k ≤ n ∧ i = .int .i64 k ∧ Hid (x.take k = y.take k) ∧ wr = w.drewN nq) (fun i _ => n - (intOf i).toNat)
    case atStart => exact ⟨0, 0, Nat.zero_le _, rfl, by simp [Hid], rfl⟩
    case round =>
      obtain ⟨k, nq, hk, rfl, HT, rfl⟩ := hrel
      by_cases hkl : k < n
      · have hkx : k < x.length := by rw [HN.out]; exact hkl
        have hky : k < y.length := by rw [HN2.out]; exact hkl
        rcases HX.out.2 with rfl | ⟨bx, ox, rfl, _, hcx⟩
        · simp at hkx
        rcases HY.out.2 with rfl | ⟨by', oy, rfl, _, hcy⟩
        · simp at hky
        have x1 := hcx k hkx
        have y1 := hcy k hky
        obtain ⟨cx', hcx'⟩ : ∃ c, x[k] = c := ⟨_, rfl⟩
        obtain ⟨cy', hcy'⟩ : ∃ c, y[k] = c := ⟨_, rfl⟩
        rw [hcx'] at x1
        rw [hcy'] at y1
        have HCX : Hid (x[k] = cx') := hcx'
        have HCY : Hid (y[k] = cy') := hcy'
        clear hcx hcy hcx' hcy'
        by_cases hc : cx' = cy'
        · subst hc
          go_wp2
          go_quiet (fail)
          go_wp2
          go_roundw
          case rel => exact ⟨k + 1, _, by omega, by go_num, take_next HT.out hkx hky (HCX.out.trans HCY.out.symm), rfl⟩
          case measure => simp [intOf]; omega
        · have hne : ((cx'.toNat : Int) != (cy'.toNat : Int)) = true := by
            simp only [bne_iff_ne, ne_eq]
            intro e; exact hc (UInt8.toNat_inj.1 (by omega))
          have HF : Hid (decide (x = y) = false) := by
            show _ = _
            rw [decide_eq_false_iff_not]
            exact differ_at hkx hky (by rw [HCX.out, HCY.out]; exact hc)
          go_wp2
          go_quiet (fail)
          go_wp2
          go_ret
          exact ⟨by rw [HF.out]; rfl, _, World.drewN_drewN _ _ _⟩
      · obtain rfl : k = n := by omega
        have HF : Hid (decide (x = y) = true) := by
          have := HT.out
          rw [List.take_of_length_le (by rw [HN.out]; exact Nat.le_refl _), List.take_of_length_le (by rw [HN2.out]; exact Nat.le_refl _)] at this
          simp [Hid, this]
        go_wp2
        go_ret
        exact ⟨by rw [HF.out]; rfl, _, rfl⟩
  · have hne : ((x.length : Int) != (y.length : Int)) = true := by simp; omega
    have HF : Hid (decide (x = y) = false) := by
      show _ = _
      rw [decide_eq_false_iff_not]
      intro e; exact hlen (by rw [e])
    clear hlen
    go_enter Try.func9, Try.ntmps9
    go_wp2
    go_ret
    exact ⟨by rw [HF.out]; rfl, 0, rfl⟩


/-- A comparison's answer: not negative just where x does not lie below y. -/
def IsCmp (e : Ending) (x y : List UInt8) : Prop := ∃ r : Int, e = .returned (.int .i64 r) ∧ (0 ≤ r ↔ bytesLess x y = false)

theorem less_drop {x y : List UInt8} {k : Nat} (h : x.take k = y.take k) : bytesLess x y = bytesLess (x.drop k) (y.drop k) := by
  conv => lhs; rw [← List.take_append_drop k x, ← List.take_append_drop k y, h]
  exact less_prefix _ _ _

theorem less_lt {x y : List UInt8} {k : Nat} (h : x.take k = y.take k) (hx : k < x.length) (hy : k < y.length) (e : x[k].toNat < y[k].toNat) : bytesLess x y = true := by
  rw [less_drop h, List.drop_eq_getElem_cons hx, List.drop_eq_getElem_cons hy]
  simp [bytesLess, UInt8.lt_iff_toNat_lt, e]

theorem less_gt {x y : List UInt8} {k : Nat} (h : x.take k = y.take k) (hx : k < x.length) (hy : k < y.length) (e : y[k].toNat < x[k].toNat) : bytesLess x y = false := by
  apply less_asymm
  exact less_lt h.symm hy hx e

theorem less_short {x y : List UInt8} (h : x.take x.length = y.take x.length) (e : x.length < y.length) : bytesLess x y = true := by
  rw [less_drop h, List.drop_length, List.drop_eq_getElem_cons e]
  rfl

theorem less_long {x y : List UInt8} (h : x.take y.length = y.take y.length) : bytesLess x y = false := by
  rw [less_drop h, List.drop_length]
  cases x.drop y.length <;> rfl

set_option maxHeartbeats 1000000 in
theorem cmp_any (ax : Option Addr) (x : List UInt8) (cx : Nat) (ay : Option Addr) (y : List UInt8) (cy : Nat) (w : World) (hx : Has w ax x) (hy : Has w ay y) (hl : x.length ≤ 1048576) (hl2 : y.length ≤ 1048576) :
    Calls Try.prog 10 #[.slice ax x.length cx, .slice ay y.length cy] w fun e w' => IsCmp e x y ∧ ∃ nq, w' = w.drewN nq := by
  have HX : Hid (Has w ax x) := hx
  have HY : Hid (Has w ay y) := hy
  clear hx hy
  obtain ⟨n, hn⟩ : ∃ n, x.length = n := ⟨_, rfl⟩
  obtain ⟨m, hm⟩ : ∃ m, y.length = m := ⟨_, rfl⟩
  have HN : Hid (x.length = n) := hn
  have HM : Hid (y.length = m) := hm
  rw [hn] at hl
  rw [hm] at hl2
  rw [hn, hm]
  clear hn hm
  by_cases hnm : m < n
  · go_enter Try.func10, Try.ntmps10
    go_wp2
    go_loopw [6] (fun i wr => ∃ k nq : Nat, k ≤ m ∧ i = .int .i64 k ∧ Hid (x.take k = y.take k) ∧ wr = w.drewN nq) (fun i _ => m - (intOf i).toNat)
    case atStart => exact ⟨0, 0, Nat.zero_le _, rfl, by simp [Hid], rfl⟩
    case round =>
      obtain ⟨k, nq, hk, rfl, HT, rfl⟩ := hrel
      by_cases hkl : k < m
      · have hkn : k < n := by omega
        have hkm : k < m := by omega
        have hkx : k < x.length := by rw [HN.out]; exact hkn
        have hky : k < y.length := by rw [HM.out]; exact hkm
        rcases HX.out.2 with rfl | ⟨bx, ox, rfl, _, hcx⟩
        · simp at hkx
        rcases HY.out.2 with rfl | ⟨by', oy, rfl, _, hcy⟩
        · simp at hky
        have x1 := hcx k hkx
        have y1 := hcy k hky
        obtain ⟨cx', hcx'⟩ : ∃ c, x[k].toNat = c := ⟨_, rfl⟩
        obtain ⟨cy', hcy'⟩ : ∃ c, y[k].toNat = c := ⟨_, rfl⟩
        rw [hcx'] at x1
        rw [hcy'] at y1
        have HCX : Hid (x[k].toNat = cx') := hcx'
        have HCY : Hid (y[k].toNat = cy') := hcy'
        clear hcx hcy hcx' hcy'
        rcases Nat.lt_trichotomy cx' cy' with hc | hc | hc
        · have HF : Hid (bytesLess x y = true) := less_lt HT.out hkx hky (by rw [HCX.out, HCY.out]; exact hc)
          go_wp2
          go_quiet (fail)
          go_wp2
          go_ret
          exact ⟨⟨-1, rfl, by rw [HF.out]; simp⟩, _, World.drewN_drewN _ _ _⟩
        · subst hc
          go_wp2
          go_quiet (fail)
          go_wp2
          go_quiet (fail)
          go_wp2
          go_roundw
          case rel => exact ⟨k + 1, _, by omega, by go_num, take_next HT.out hkx hky (UInt8.toNat_inj.1 (HCX.out.trans HCY.out.symm)), rfl⟩
          case measure => simp [intOf]; omega
        · have HF : Hid (bytesLess x y = false) := less_gt HT.out hkx hky (by rw [HCX.out, HCY.out]; exact hc)
          go_wp2
          go_quiet (fail)
          go_wp2
          go_quiet (fail)
          go_wp2
          go_ret
          exact ⟨⟨1, rfl, by rw [HF.out]; simp⟩, _, by rw [World.drewN_drewN, World.drewN_drewN]⟩
      · obtain rfl : k = m := by omega
        have HF : Hid (bytesLess x y = false) := less_long (by rw [HM.out]; exact HT.out)
        go_wp2
        go_ret
        exact ⟨⟨1, rfl, by rw [HF.out]; simp⟩, _, rfl⟩
  · go_enter Try.func10, Try.ntmps10
    go_wp2
    go_loopw [6] (fun i wr => ∃ k nq : Nat, k ≤ n ∧ i = .int .i64 k ∧ Hid (x.take k = y.take k) ∧ wr = w.drewN nq) (fun i _ => n - (intOf i).toNat)
    case atStart => exact ⟨0, 0, Nat.zero_le _, rfl, by simp [Hid], rfl⟩
    case round =>
      obtain ⟨k, nq, hk, rfl, HT, rfl⟩ := hrel
      by_cases hkl : k < n
      · have hkn : k < n := by omega
        have hkm : k < m := by omega
        have hkx : k < x.length := by rw [HN.out]; exact hkn
        have hky : k < y.length := by rw [HM.out]; exact hkm
        rcases HX.out.2 with rfl | ⟨bx, ox, rfl, _, hcx⟩
        · simp at hkx
        rcases HY.out.2 with rfl | ⟨by', oy, rfl, _, hcy⟩
        · simp at hky
        have x1 := hcx k hkx
        have y1 := hcy k hky
        obtain ⟨cx', hcx'⟩ : ∃ c, x[k].toNat = c := ⟨_, rfl⟩
        obtain ⟨cy', hcy'⟩ : ∃ c, y[k].toNat = c := ⟨_, rfl⟩
        rw [hcx'] at x1
        rw [hcy'] at y1
        have HCX : Hid (x[k].toNat = cx') := hcx'
        have HCY : Hid (y[k].toNat = cy') := hcy'
        clear hcx hcy hcx' hcy'
        rcases Nat.lt_trichotomy cx' cy' with hc | hc | hc
        · have HF : Hid (bytesLess x y = true) := less_lt HT.out hkx hky (by rw [HCX.out, HCY.out]; exact hc)
          go_wp2
          go_quiet (fail)
          go_wp2
          go_ret
          exact ⟨⟨-1, rfl, by rw [HF.out]; simp⟩, _, World.drewN_drewN _ _ _⟩
        · subst hc
          go_wp2
          go_quiet (fail)
          go_wp2
          go_quiet (fail)
          go_wp2
          go_roundw
          case rel => exact ⟨k + 1, _, by omega, by go_num, take_next HT.out hkx hky (UInt8.toNat_inj.1 (HCX.out.trans HCY.out.symm)), rfl⟩
          case measure => simp [intOf]; omega
        · have HF : Hid (bytesLess x y = false) := less_gt HT.out hkx hky (by rw [HCX.out, HCY.out]; exact hc)
          go_wp2
          go_quiet (fail)
          go_wp2
          go_quiet (fail)
          go_wp2
          go_ret
          exact ⟨⟨1, rfl, by rw [HF.out]; simp⟩, _, by rw [World.drewN_drewN, World.drewN_drewN]⟩
      · obtain rfl : k = n := by omega
        by_cases hlt : k < m
        · have HF : Hid (bytesLess x y = true) := less_short (by rw [HN.out]; exact HT.out) (by rw [HN.out, HM.out]; exact hlt)
          go_wp2
          go_ret
          exact ⟨⟨-1, rfl, by rw [HF.out]; simp⟩, _, rfl⟩
        · have hkm : k = m := by omega
          have HF : Hid (bytesLess x y = false) := less_long (by rw [HM.out, ← hkm]; exact HT.out)
          clear hkm
          go_wp2
          go_ret
          exact ⟨⟨0, rfl, by rw [HF.out]; simp⟩, _, rfl⟩

theorem Has.drewN {w : World} {a : Option Addr} {l : List UInt8} (h : Has w a l) (q : Nat) : Has (w.drewN q) a l := h.later (below_drewN (Below.refl _ _) q)

/-- What an end that came in stands for. -/
def endOf : Option Addr → List UInt8 → Option (List UInt8)
  | none, _ => none
  | some _, l => some l

theorem clone_end (ao : Option Addr) (l : List UInt8) (cap : Nat) (w : World) (hl : l.length ≤ 1048576) (h : Has w ao l) :
    Calls Try.prog 7 #[.slice ao l.length cap] w fun e w' => ∃ v, e = .returned v ∧ End w' v (endOf ao l) ∧ Below w.heap.size w w' :=
  (clone_any ao l cap w hl h).mono fun e w' ⟨ao', he, hn, hh, hb⟩ => by
    refine ⟨_, he, ?_, hb⟩
    cases ao with
    | none =>
      obtain rfl : ao' = none := hn.2 rfl
      obtain rfl := hh.1 rfl
      exact .inl ⟨rfl, rfl⟩
    | some x =>
      cases ao' with
      | none => exact absurd (hn.1 rfl) (by simp)
      | some y => exact .inr ⟨y, l, l.length, rfl, rfl, hh⟩

end Go.Proofs.Qxb6603640a
