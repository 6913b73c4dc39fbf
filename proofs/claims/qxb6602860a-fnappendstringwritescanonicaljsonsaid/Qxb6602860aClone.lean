/-
  A SLICE OF BYTES THAT CAME IN ('IsRow', 'Has'), AND THE WALK OF cloneBytes: a copy in new memory, nil where it was nil, without spare room.
-/
import Derived.Test.Qxb6602860aBuf
import Derived.OpenShut
import Derived.Lib.SliceRun
namespace Go.Proofs.Qxb6602860a
open Go.RowKit

/-- WHAT THE WALK IS TOLD OF A SLICE OF INTEGERS THAT CAME IN: it is nil; or it leads to a row of 'cap' cells, the numbers 'zs' (the first 'len' are its elements, the rest its spare room), each fitting its kind. -/
def IsRow (k : IntKind) (w : World) (a : Option Addr) (len cap : Nat) (zs : List Int) : Prop :=
  (a = none ∧ len = 0 ∧ cap = 0 ∧ zs = []) ∨
  ∃ x, a = some x ∧ len ≤ cap ∧ cap ≤ maxLen ∧ zs.length = cap ∧ (∀ i, i < zs.length → w.cell? (x.add i) = some (.int k (zs.getD i 0))) ∧ ∀ n ∈ zs, (Lit.int k n).wf = true

/-- The bytes l lie in w where a slice with the address ao begins; nil has none. -/
def Has (w : World) (ao : Option Addr) (l : List UInt8) : Prop :=
  (ao = none → l = []) ∧ (l = [] ∨ ∃ b off, ao = some ⟨b, off, none⟩ ∧ b < w.heap.size ∧ ∀ j (hj : j < l.length), w.cell? ⟨b, off + j, none⟩ = some (.int .u8 l[j].toNat))

theorem Has.later {w w' : World} {ao : Option Addr} {l : List UInt8} (h : Has w ao l) (hb : Below w.heap.size w w') : Has w' ao l := by
  refine ⟨h.1, ?_⟩
  rcases h.2 with h2 | ⟨b, off, e, hlt, hc⟩
  · exact .inl h2
  · exact .inr ⟨b, off, e, Nat.lt_of_lt_of_le hlt hb.size, fun j hj => by rw [hb.cell (p := ⟨b, off + j, none⟩) hlt]; exact hc j hj⟩

theorem has_of {w : World} {ao : Option Addr} {n cap : Nat} {zs : List Int} (h : IsRow .u8 w ao n cap zs) : ∃ l : List UInt8, l.length = n ∧ Has w ao l := by
  rcases h with ⟨rfl, rfl, rfl, rfl⟩ | ⟨x, rfl, h1, h2, h3, h4, h5⟩
  · exact ⟨[], rfl, fun _ => rfl, .inl rfl⟩
  · refine ⟨(zs.take n).map fun z => UInt8.ofNat z.toNat, by simp; omega, (fun h => by cases h), ?_⟩
    by_cases h0 : n = 0
    · left; simp [h0]
    · right
      obtain ⟨b, off, rfl, hc⟩ := ints_at h4 (by omega)
      refine ⟨b, off, rfl, World.block_lt_of_cell? w ⟨b, off + 0, none⟩ (hc 0 (by omega)), fun j hj => ?_⟩
      have hj1 : j < n := by simp at hj; omega
      have hj2 : j < zs.length := by omega
      have hb := bounds_u8 (h5 zs[j] (List.getElem_mem hj2))
      rw [hc j hj2, List.getD_eq_getElem?_getD, List.getElem?_eq_getElem hj2]
      simp only [List.getElem_map, List.getElem_take, Option.getD_some]
      rw [UInt8.toNat_ofNat']
      congr 2
      omega

theorem make_run (wx : World) (n : Nat) (hn : n ≤ 1048576) : ∃ arr : Array Value, arr.size = n ∧
    (Instr.makeSlice 22 (.int .i64 n) (.int .i64 n)).run Try.prog wx = .ok (.slice (some ⟨wx.heap.size, 0, none⟩) n n) (wx.alloc (.cells arr 5)) := by
  obtain ⟨i0, hi, hz0, hz1, hz2⟩ := info_parts Try.info5
  have h := run_make (P := Try.prog) wx 22 5 i0 (.int .u8 0) Try.underlying22 hi hz0 .i64 .i64 n n (by omega) (by omega) (by rw [hz2]; omega) (by omega)
  simp only [Int.toNat_natCast] at h
  exact ⟨_, by rw [size_madeCells, hz1]; omega, h⟩

theorem set_step {ar : Array Value} {l : List UInt8} {k : Nat} (hs : ar.size = l.length) (h : ∀ j (hj : j < l.length), j < k → ar[j]? = some (.int .u8 l[j].toNat)) (hk : k < l.length) :
    ∀ j (hj : j < l.length), j < k + 1 → (ar.setIfInBounds k (.int .u8 l[k].toNat))[j]? = some (.int .u8 l[j].toNat) := by
  intro j hj hjk
  rw [Array.getElem?_setIfInBounds]
  by_cases e : k = j
  · subst e; rw [if_pos rfl, if_pos (by omega)]
  · rw [if_neg e]; exact h j hj (by omega)

set_option maxHeartbeats 400000 in
theorem clone_any (ao : Option Addr) (l : List UInt8) (cap : Nat) (w : World) (hl : l.length ≤ 1048576) (h : Has w ao l) :
    Calls Try.prog 10 #[.slice ao l.length cap] w fun e w' => ∃ ao', e = .returned (.slice ao' l.length l.length) ∧ (ao' = none ↔ ao = none) ∧ Has w' ao' l ∧ Below w.heap.size w w' := by
  have q : ∀ (w : World) (a : Option Addr) (n c n' c' : Nat), (binOp .eql 22 (.slice a n c) (.slice none n' c')).run Try.prog w = .ok (.bool a.isNone) w := fun w a n c n' c' => Lib.run_eql_slice_nil w 22 5 a n c n' c' Try.underlying22
  obtain ⟨h1, h2⟩ := h
  cases ao with
  | none =>
    obtain rfl := h1 rfl
    go_enter Try.func10, Try.ntmps10
    go_wp2
    go_ret
    exact ⟨none, rfl, by simp, ⟨fun _ => rfl, .inl rfl⟩, Below.refl _ _⟩
  | some x =>
    obtain ⟨arr, ha, hmk⟩ := make_run w l.length hl
    clear h1
    rcases h2 with rfl | ⟨b, off, hx, hlt, hc⟩
    · have hmk0 : (Instr.makeSlice 22 (.int .i64 0) (.int .i64 0)).run Try.prog w = .ok (.slice (some ⟨w.heap.size, 0, none⟩) 0 0) (w.alloc (.cells arr 5)) := hmk
      clear hmk
      go_enter Try.func10, Try.ntmps10
      go_wp2
      refine wp_loop_rounds 1 ?_
      rw [rounds_succ]
      go_wp2
      go_ret
      exact ⟨_, rfl, by simp, ⟨fun _ => rfl, .inl rfl⟩, (Below.refl _ _).alloc (Nat.le_refl _) _⟩
    · obtain rfl : x = ⟨b, off, none⟩ := by simpa using hx
      have HA : Hid (arr.size = l.length) := ha
      clear ha hx
      go_enter Try.func10, Try.ntmps10
      go_wp2
      go_loopw [4] (fun i wr => ∃ (k : Nat) (ar : Array Value), k ≤ l.length ∧ i = .int .i64 k ∧ Hid (ar.size = l.length) ∧ Hid (∀ j (hj : j < l.length), j < k → ar[j]? = some (.int .u8 l[j].toNat)) ∧ wr = w.alloc (.cells ar 5)) (fun i _ => l.length - (intOf i).toNat)
      case atStart => exact ⟨0, arr, Nat.zero_le _, rfl, HA, (fun _ _ h => by omega), rfl⟩
      case round =>
        obtain ⟨k, ar, hk, rfl, HS, HK, rfl⟩ := hrel
        by_cases hkl : k < l.length
        · have c1 := hc k hkl
          obtain ⟨y, hy⟩ : ∃ y, ar[k]? = some y := ⟨_, Array.getElem?_eq_getElem (by rw [HS.out]; exact hkl)⟩
          clear hmk hc
          go_wp2
          go_roundw
          case rel => exact ⟨k + 1, ar.setIfInBounds k (.int .u8 l[k].toNat), by omega, by go_num, by simpa [Hid] using HS.out, set_step HS.out HK.out hkl, rfl⟩
          case measure => simp [intOf]; omega
        · obtain rfl : k = l.length := by omega
          go_wp2
          go_ret
          refine ⟨_, rfl, by simp, ⟨(fun h => by cases h), .inr ⟨w.heap.size, 0, rfl, by simp, fun j hj => ?_⟩⟩, (Below.refl _ _).alloc (Nat.le_refl _) _⟩
          rw [Nat.zero_add, World.cell?_alloc_new]
          exact HK.out j hj hj
end Go.Proofs.Qxb6602860a
