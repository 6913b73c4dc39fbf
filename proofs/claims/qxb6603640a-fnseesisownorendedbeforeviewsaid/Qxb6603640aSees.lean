/-
  THE WALKS OF slices.BinarySearch, (idSet).has, (readView).takenAfter, sees and ZZsees, at a view whose open set is held in itself and rises.
-/
import Derived.Test.Qxb6603640aRows
import Derived.WalkKit
import Derived.WalkSpells
import Derived.WalkLawsBesides
import Derived.Deep.QuietTactic
import Derived.BigQuiet
namespace Go.Proofs.Qxb6603640a
open Go.RowKit

/-- The first n numbers rise. -/
def Rises (F : Nat → Int) (n : Nat) : Prop := ∀ i j, i < j → j < n → F i < F j
/-- Is t among the first n? -/
def among (F : Nat → Int) (n : Nat) (t : Int) : Bool := decide (∃ k, k < n ∧ F k = t)

theorem less_any (x y : Int) (w : World) : Calls Try.prog 23 #[.int .u64 x, .int .u64 y] w fun e w' => e = .returned (.bool (decide (x < y))) ∧ w = w' := by
  go_enter Try.func23, Try.ntmps23
  go_wp2
  go_ret
  exact ⟨rfl, rfl⟩

theorem among_yes {F : Nat → Int} {n k : Nat} {t : Int} (h : k < n) (e : F k = t) : among F n t = true := decide_eq_true ⟨k, h, e⟩
theorem among_no {F : Nat → Int} {n : Nat} {t : Int} (h : ∀ k, k < n → F k ≠ t) : among F n t = false := decide_eq_false fun ⟨k, h1, h2⟩ => h k h1 h2

theorem bs_up {F : Nat → Int} {n p q m : Nat} {t : Int} (hr : Rises F n) (h : (∀ k, k < p → F k < t) ∧ (∀ k, q ≤ k → k < n → t ≤ F k)) (hm : m < n) (hlt : F m < t) :
    (∀ k, k < m + 1 → F k < t) ∧ (∀ k, q ≤ k → k < n → t ≤ F k) :=
  ⟨fun k hk => by
    by_cases e : k = m
    · subst e; exact hlt
    · exact Int.lt_trans (hr k m (by omega) hm) hlt, h.2⟩

theorem bs_down {F : Nat → Int} {n p q m : Nat} {t : Int} (hr : Rises F n) (h : (∀ k, k < p → F k < t) ∧ (∀ k, q ≤ k → k < n → t ≤ F k)) (hge : ¬ F m < t) :
    (∀ k, k < p → F k < t) ∧ (∀ k, m ≤ k → k < n → t ≤ F k) :=
  ⟨h.1, fun k hk hn => by
    by_cases e : k = m
    · subst e; omega
    · have := hr m k (by omega) hn; omega⟩

theorem bs_end {F : Nat → Int} {n p : Nat} {t : Int} (h : (∀ k, k < p → F k < t) ∧ (∀ k, p ≤ k → k < n → t ≤ F k)) (hr : Rises F n) (hne : p < n → F p ≠ t) : among F n t = false := by
  apply among_no
  intro k hk e
  by_cases h1 : k < p
  · have := h.1 k h1; omega
  · by_cases h2 : k = p
    · subst h2; exact hne hk e
    · have a := h.2 p (Nat.le_refl _) (by omega)
      have b := hr p k (by omega) hk
      omega

set_option maxHeartbeats 1000000 in
theorem bs_any (b off cap n : Nat) (F : Nat → Int) (t : Int) (w : World) (hn : n ≤ 8) (hc : ∀ k, k < n → w.cell? ⟨b, off + k, none⟩ = some (.int .u64 (F k))) (hr : Rises F n) :
    Calls Try.prog 20 #[.slice (some ⟨b, off, none⟩) n cap, .int .u64 t] w fun e w' => (∃ i : Int, e = .returned (.tuple #[.int .i64 i, .bool (among F n t)])) ∧ w = w' := by
  have HC : Hid (∀ k, k < n → w.cell? ⟨b, off + k, none⟩ = some (.int .u64 (F k))) := hc
  have HR : Hid (Rises F n) := hr
  clear hc hr
  go_enter Try.func20, Try.ntmps20
  go_wp2
  go_loop [7, 8] (fun i j => ∃ p q : Nat, p ≤ q ∧ q ≤ n ∧ i = .int .i64 p ∧ j = .int .i64 q ∧ Hid ((∀ k, k < p → F k < t) ∧ (∀ k, q ≤ k → k < n → t ≤ F k))) (fun i j => (intOf j).toNat - (intOf i).toNat)
  case atStart => exact ⟨0, n, Nat.zero_le _, Nat.le_refl _, rfl, rfl, (fun _ h => by omega), (fun _ h h' => by omega)⟩
  case round =>
    obtain ⟨p, q, hpq, hqn, rfl, rfl, HI⟩ := hrel
    by_cases hlt : p < q
    · have x1 := HC.out ((p + q) / 2) (by omega)
      by_cases hF : F ((p + q) / 2) < t
      · have HF : Hid (F ((p + q) / 2) < t) := hF
        go_wp2_with (go_at_call 23; refine (less_any _ _ _).mono ?_; rintro e w' ⟨rfl, rfl⟩)
        go_round
        case rel => exact ⟨(p + q) / 2 + 1, q, by omega, by omega, by go_num, rfl, bs_up HR.out HI.out (by omega) HF.out⟩
        case measure => simp [intOf]; omega
      · have HF : Hid (¬ F ((p + q) / 2) < t) := hF
        go_wp2_with (go_at_call 23; refine (less_any _ _ _).mono ?_; rintro e w' ⟨rfl, rfl⟩)
        go_round
        case rel => exact ⟨p, (p + q) / 2, by omega, by omega, rfl, by go_num, bs_down HR.out HI.out (by have := HF.out; omega)⟩
        case measure => simp [intOf]; omega
    · obtain rfl : p = q := by omega
      by_cases hp : p < n
      · have x1 := HC.out p hp
        by_cases hF : F p = t
        · have HA : Hid (among F n t = true) := among_yes hp hF
          rw [hF] at x1
          clear hF
          go_wp2
          go_ret2
          exact ⟨⟨_, by rw [HA.out]; rfl⟩, rfl⟩
        · have HA : Hid (among F n t = false) := bs_end HI.out HR.out (fun _ => hF)
          have hne : (F p == t) = false := by simpa using hF
          go_wp2
          go_ret2
          exact ⟨⟨_, by rw [HA.out]; rfl⟩, rfl⟩
      · obtain rfl : p = n := by omega
        have HA : Hid (among F p t = false) := bs_end HI.out HR.out (fun h => by omega)
        go_wp2
        go_ret2
        exact ⟨⟨_, by rw [HA.out]; rfl⟩, rfl⟩

/-- Eight numbers by their place. -/
def F8 (f0 f1 f2 f3 f4 f5 f6 f7 : Int) : Nat → Int
  | 0 => f0 | 1 => f1 | 2 => f2 | 3 => f3 | 4 => f4 | 5 => f5 | 6 => f6 | _ => f7

theorem f8_cells {f0 f1 f2 f3 f4 f5 f6 f7 : Int} {w : World} {b off : Nat} (h0 : w.cell? ⟨b, off, none⟩ = some (.int .u64 f0)) (h1 : w.cell? ⟨b, off + 1, none⟩ = some (.int .u64 f1)) (h2 : w.cell? ⟨b, off + 2, none⟩ = some (.int .u64 f2)) (h3 : w.cell? ⟨b, off + 3, none⟩ = some (.int .u64 f3))
    (h4 : w.cell? ⟨b, off + 4, none⟩ = some (.int .u64 f4)) (h5 : w.cell? ⟨b, off + 5, none⟩ = some (.int .u64 f5)) (h6 : w.cell? ⟨b, off + 6, none⟩ = some (.int .u64 f6)) (h7 : w.cell? ⟨b, off + 7, none⟩ = some (.int .u64 f7)) :
    ∀ k, k < 8 → w.cell? ⟨b, off + k, none⟩ = some (.int .u64 (F8 f0 f1 f2 f3 f4 f5 f6 f7 k)) := by
  intro k hk
  match k, hk with
  | 0, _ => exact h0
  | 1, _ => exact h1
  | 2, _ => exact h2
  | 3, _ => exact h3
  | 4, _ => exact h4
  | 5, _ => exact h5
  | 6, _ => exact h6
  | 7, _ => exact h7

theorem Try.len29 : Try.prog.arrayLen 29 = 8 := by kernel_rfl
theorem Try.elem29 : Try.prog.underlying 29 = some (.array (Try.prog.arrayLen 29) (Try.prog.elem 29)) := by kernel_rfl
theorem Try.size28 (w : World) : (sizeOf (Try.prog.elem 29)).run Try.prog w = .ok 1 w := by kernel_rfl

theorem slice29 (b off n : Nat) (hn : n ≤ 8) (w : World) : (Instr.sliceAt 29 (.pointer (some ⟨b, off, none⟩)) none (some (.int .i64 n)) none).run Try.prog w = .ok (.slice (some ⟨b, off, none⟩) n 8) w := by
  rw [run_sliceAt_array_h w 29 ⟨b, off, none⟩ Try.elem29 .i64 n (by omega) (by rw [Try.len29]; omega), Try.size28, Try.len29]
  simp [slicedAt, Addr.add]

set_option maxHeartbeats 1000000 in
theorem has_any (f0 f1 f2 f3 f4 f5 f6 f7 : Int) (n : Nat) (t : Int) (hn : n ≤ 8) (hr : Rises (F8 f0 f1 f2 f3 f4 f5 f6 f7) n) (w : World) :
    Calls Try.prog 19 #[.agg #[.int .u64 f0, .int .u64 f1, .int .u64 f2, .int .u64 f3, .int .u64 f4, .int .u64 f5, .int .u64 f6, .int .u64 f7, .pointer none, .int .u64 0, .int .i64 0, .int .i64 n], .int .u64 t] w
      fun e w' => e = .returned (.bool (among (F8 f0 f1 f2 f3 f4 f5 f6 f7) n t)) ∧ Below w.heap.size w w' := by
  have HR : Hid (Rises (F8 f0 f1 f2 f3 f4 f5 f6 f7) n) := hr
  clear hr
  have hsl := slice29 w.heap.size 0 n hn
  go_enter Try.func19, Try.ntmps19
  go_wp2_with fail
  refine (bs_any w.heap.size 0 8 n (F8 f0 f1 f2 f3 f4 f5 f6 f7) t _ hn (fun k hk => f8_cells (by simp) (by simp) (by simp) (by simp) (by simp) (by simp) (by simp) (by simp) k (by omega)) HR.out).mono ?_
  rintro e w' ⟨⟨i, rfl⟩, rfl⟩
  go_wp2
  go_ret
  exact ⟨rfl, (Below.refl _ _).alloc (Nat.le_refl _) _⟩

/-- A read view in memory: its creator, its bounds, its open set held in itself. -/
structure View (w : World) (g : Nat) (cr mi ne f0 f1 f2 f3 f4 f5 f6 f7 : Int) (n : Nat) : Prop where
  c0 : w.cell? ⟨g, 0, none⟩ = some (.int .u64 cr)
  c1 : w.cell? ⟨g, 1, none⟩ = some (.int .u64 mi)
  c2 : w.cell? ⟨g, 2, none⟩ = some (.int .u64 ne)
  c3 : w.cell? ⟨g, 3, none⟩ = some (.int .u64 f0)
  c4 : w.cell? ⟨g, 4, none⟩ = some (.int .u64 f1)
  c5 : w.cell? ⟨g, 5, none⟩ = some (.int .u64 f2)
  c6 : w.cell? ⟨g, 6, none⟩ = some (.int .u64 f3)
  c7 : w.cell? ⟨g, 7, none⟩ = some (.int .u64 f4)
  c8 : w.cell? ⟨g, 8, none⟩ = some (.int .u64 f5)
  c9 : w.cell? ⟨g, 9, none⟩ = some (.int .u64 f6)
  c10 : w.cell? ⟨g, 10, none⟩ = some (.int .u64 f7)
  c11 : w.cell? ⟨g, 11, none⟩ = some (.pointer none)
  c12 : w.cell? ⟨g, 12, none⟩ = some (.int .u64 0)
  c13 : w.cell? ⟨g, 13, none⟩ = some (.int .i64 0)
  c14 : w.cell? ⟨g, 14, none⟩ = some (.int .i64 n)

/-- What takenAfter answers. -/
def after (cr mi ne : Int) (F : Nat → Int) (n : Nat) (t : Int) : Bool := if t < mi ∧ t ≠ cr then true else if ne ≤ t then false else !(among F n t)

set_option maxHeartbeats 1000000 in
theorem after_any (g : Nat) (cr mi ne f0 f1 f2 f3 f4 f5 f6 f7 : Int) (n : Nat) (t : Int) (w : World) (hn : n ≤ 8) (hr : Rises (F8 f0 f1 f2 f3 f4 f5 f6 f7) n) (hv : View w g cr mi ne f0 f1 f2 f3 f4 f5 f6 f7 n) :
    Calls Try.prog 18 #[.pointer (some ⟨g, 0, none⟩), .int .u64 t] w fun e w' => e = .returned (.bool (after cr mi ne (F8 f0 f1 f2 f3 f4 f5 f6 f7) n t)) ∧ Below w.heap.size w w' := by
  have HR : Hid (Rises (F8 f0 f1 f2 f3 f4 f5 f6 f7) n) := hr
  obtain ⟨c0, c1, c2, c3, c4, c5, c6, c7, c8, c9, c10, c11, c12, c13, c14⟩ := hv
  clear hr
  by_cases h1 : t < mi
  · by_cases h2 : t = cr
    · subst h2
      by_cases h3 : ne ≤ t
      · have HA : Hid (after t mi ne (F8 f0 f1 f2 f3 f4 f5 f6 f7) n t = false) := by simp [Hid, after, h3]
        go_enter Try.func18, Try.ntmps18
        go_wp2
        go_ret
        exact ⟨by rw [HA.out]; rfl, Below.refl _ _⟩
      · have HA : Hid (after t mi ne (F8 f0 f1 f2 f3 f4 f5 f6 f7) n t = !(among (F8 f0 f1 f2 f3 f4 f5 f6 f7) n t)) := by simp [Hid, after, h3]
        go_enter Try.func18, Try.ntmps18
        go_wp2_with fail
        refine (has_any f0 f1 f2 f3 f4 f5 f6 f7 n t hn HR.out w).mono ?_
        rintro e w' ⟨rfl, hb⟩
        go_wp2
        go_ret
        exact ⟨by rw [HA.out]; rfl, hb⟩
    · have HA : Hid (after cr mi ne (F8 f0 f1 f2 f3 f4 f5 f6 f7) n t = true) := by simp [Hid, after, h1, h2]
      have hne : (t != cr) = true := by simpa using h2
      go_enter Try.func18, Try.ntmps18
      go_wp2
      go_ret
      exact ⟨by rw [HA.out]; rfl, Below.refl _ _⟩
  · by_cases h3 : ne ≤ t
    · have HA : Hid (after cr mi ne (F8 f0 f1 f2 f3 f4 f5 f6 f7) n t = false) := by simp [Hid, after, h3, h1]
      go_enter Try.func18, Try.ntmps18
      go_wp2
      go_ret
      exact ⟨by rw [HA.out]; rfl, Below.refl _ _⟩
    · have HA : Hid (after cr mi ne (F8 f0 f1 f2 f3 f4 f5 f6 f7) n t = !(among (F8 f0 f1 f2 f3 f4 f5 f6 f7) n t)) := by simp [Hid, after, h3, h1]
      go_enter Try.func18, Try.ntmps18
      go_wp2_with fail
      refine (has_any f0 f1 f2 f3 f4 f5 f6 f7 n t hn HR.out w).mono ?_
      rintro e w' ⟨rfl, hb⟩
      go_wp2
      go_ret
      exact ⟨by rw [HA.out]; rfl, hb⟩

set_option maxHeartbeats 400000 in
theorem sees_any (g : Nat) (cr mi ne f0 f1 f2 f3 f4 f5 f6 f7 : Int) (n : Nat) (t : Int) (w : World) (hn : n ≤ 8) (hr : Rises (F8 f0 f1 f2 f3 f4 f5 f6 f7) n) (hv : View w g cr mi ne f0 f1 f2 f3 f4 f5 f6 f7 n) :
    Calls Try.prog 17 #[.pointer (some ⟨g, 0, none⟩), .int .u64 t] w fun e w' => e = .returned (.bool (t == cr || after cr mi ne (F8 f0 f1 f2 f3 f4 f5 f6 f7) n t)) ∧ Below w.heap.size w w' := by
  have HR : Hid (Rises (F8 f0 f1 f2 f3 f4 f5 f6 f7) n) := hr
  have HV : Hid (View w g cr mi ne f0 f1 f2 f3 f4 f5 f6 f7 n) := hv
  have c0 := hv.c0
  clear hr hv
  by_cases h : t = cr
  · subst h
    go_enter Try.func17, Try.ntmps17
    go_wp2
    go_ret
    exact ⟨by simp, Below.refl _ _⟩
  · have hne : (t == cr) = false := by simpa using h
    clear h
    go_enter Try.func17, Try.ntmps17
    go_wp2_with fail
    refine (after_any g cr mi ne f0 f1 f2 f3 f4 f5 f6 f7 n t w hn HR.out HV.out).mono ?_
    rintro e w' ⟨rfl, hb⟩
    go_wp2
    go_ret
    exact ⟨by rw [hne, Bool.false_or]; rfl, hb⟩

set_option maxHeartbeats 400000 in
theorem zzsees_any (g : Nat) (cr mi ne f0 f1 f2 f3 f4 f5 f6 f7 : Int) (n : Nat) (t : Int) (w : World) (hn : n ≤ 8) (hr : Rises (F8 f0 f1 f2 f3 f4 f5 f6 f7) n) (hv : View w g cr mi ne f0 f1 f2 f3 f4 f5 f6 f7 n) :
    Calls Try.prog 15 #[.pointer (some ⟨g, 0, none⟩), .int .u64 t] w fun e w' => e = .returned (.bool (t == cr || after cr mi ne (F8 f0 f1 f2 f3 f4 f5 f6 f7) n t)) ∧ Below w.heap.size w w' := by
  have HR : Hid (Rises (F8 f0 f1 f2 f3 f4 f5 f6 f7) n) := hr
  have HV : Hid (View w g cr mi ne f0 f1 f2 f3 f4 f5 f6 f7 n) := hv
  clear hr hv
  go_enter Try.func15, Try.ntmps15
  go_wp2_with fail
  refine (sees_any g cr mi ne f0 f1 f2 f3 f4 f5 f6 f7 n t w hn HR.out HV.out).mono ?_
  rintro e w' ⟨rfl, hb⟩
  go_wp2
  go_ret
  exact ⟨rfl, hb⟩
end Go.Proofs.Qxb6603640a
