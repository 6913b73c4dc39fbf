/-
  THE WALKS OF ZZnewReadViewFew AND zzViewPremise.
-/
import Derived.Test.Qxb6603640aSees
namespace Go.Proofs.Qxb6603640a
open Go.RowKit

set_option maxHeartbeats 1000000 in
theorem new_any (cr mi ne f0 f1 f2 f3 f4 f5 f6 f7 : Int) (n : Nat) (w : World) :
    Calls Try.prog 14 #[.int .u64 cr, .int .u64 mi, .int .u64 ne, .agg #[.int .u64 f0, .int .u64 f1, .int .u64 f2, .int .u64 f3, .int .u64 f4, .int .u64 f5, .int .u64 f6, .int .u64 f7], .int .i64 n] w
      fun e w' => ∃ g, e = .returned (.pointer (some ⟨g, 0, none⟩)) ∧ g < w'.heap.size ∧ w.heap.size ≤ g ∧ View w' g cr mi ne f0 f1 f2 f3 f4 f5 f6 f7 n ∧ Below w.heap.size w w' := by
  go_enter Try.func14, Try.ntmps14
  go_wp2
  go_ret
  exact ⟨w.heap.size + 1, rfl, by simp, by omega, ⟨by simp, by simp, by simp, by simp, by simp, by simp, by simp, by simp, by simp, by simp, by simp, by simp, by simp, by simp, by simp⟩, ((Below.refl _ _).alloc (Nat.le_refl _) _).alloc (by simp) _⟩

/-- What the premise asks of a view. -/
structure Prem (cr mi ne : Int) (F : Nat → Int) (n : Nat) : Prop where
  le : mi ≤ ne
  rises : Rises F n
  each : ∀ i, i < n → F i < ne ∧ (F i = cr ∨ mi ≤ F i)

def IsPrem (e : Ending) (cr mi ne : Int) (F : Nat → Int) (n : Nat) : Prop := ∃ r : Bool, e = .returned (.bool r) ∧ (r = true → Prem cr mi ne F n)

theorem rises_of {F : Nat → Int} {n : Nat} (h : ∀ i, i + 1 < n → F i < F (i + 1)) : Rises F n := by
  intro i j hij
  induction j with
  | zero => omega
  | succ j ih =>
    intro hj
    by_cases e : i = j
    · subst e; exact h i hj
    · exact Int.lt_trans (ih (by omega) (by omega)) (h j hj)

set_option maxHeartbeats 1000000 in
theorem prem_any (cr mi ne f0 f1 f2 f3 f4 f5 f6 f7 : Int) (n : Nat) (w : World) (h1 : 1 ≤ n) (h8 : n ≤ 8) :
    Calls Try.prog 13 #[.int .u64 cr, .int .u64 mi, .int .u64 ne, .agg #[.int .u64 f0, .int .u64 f1, .int .u64 f2, .int .u64 f3, .int .u64 f4, .int .u64 f5, .int .u64 f6, .int .u64 f7], .int .i64 n] w
      fun e w' => IsPrem e cr mi ne (F8 f0 f1 f2 f3 f4 f5 f6 f7) n ∧ Below w.heap.size w w' := by
  obtain ⟨F, hF⟩ : ∃ F, F8 f0 f1 f2 f3 f4 f5 f6 f7 = F := ⟨_, rfl⟩
  have HF : Hid (F8 f0 f1 f2 f3 f4 f5 f6 f7 = F) := hF
  rw [hF]
  clear hF
  by_cases hmn : ne < mi
  · go_enter Try.func13, Try.ntmps13
    go_wp2
    go_ret
    exact ⟨⟨false, rfl, fun h => by cases h⟩, (Below.refl _ _).alloc (Nat.le_refl _) _⟩
  · go_enter Try.func13, Try.ntmps13
    go_wp2
    go_loopw [11] (fun i wr => ∃ k : Nat, k + 1 ≤ n ∧ i = .int .i64 (k + 1 : Nat) ∧ Hid (∀ j, j < 8 → wr.cell? ⟨w.heap.size, j, none⟩ = some (.int .u64 (F j))) ∧ Below w.heap.size w wr ∧ Hid (∀ j, j < k → F j < F (j + 1))) (fun i _ => n - (intOf i).toNat)
    case atStart =>
      refine ⟨0, h1, rfl, ?_, (Below.refl _ _).alloc (Nat.le_refl _) _, fun _ h => by omega⟩
      intro j hj
      have := f8_cells (w := w.alloc (.cells #[.int .u64 f0, .int .u64 f1, .int .u64 f2, .int .u64 f3, .int .u64 f4, .int .u64 f5, .int .u64 f6, .int .u64 f7] 29)) (b := w.heap.size) (off := 0) (f0 := f0) (f1 := f1) (f2 := f2) (f3 := f3) (f4 := f4) (f5 := f5) (f6 := f6) (f7 := f7) (by simp) (by simp) (by simp) (by simp) (by simp) (by simp) (by simp) (by simp) j hj
      rw [Nat.zero_add, HF.out] at this
      exact this
    case round =>
      obtain ⟨k, hk, rfl, HC, hbel, HK⟩ := hrel
      by_cases hkl : k + 1 < n
      · have x1 := HC.out k (by omega)
        have x2 := HC.out (k + 1) (by omega)
        by_cases hge : F (k + 1) ≤ F k
        · go_wp2
          go_quiet (fail)
          go_wp2
          go_ret
          exact ⟨⟨false, rfl, fun h => by cases h⟩, below_drewN hbel _⟩
        · have hlt : F k < F (k + 1) := by omega
          have HLT : Hid (F k < F (k + 1)) := hlt
          go_wp2
          go_quiet (fail)
          go_wp2
          go_roundw
          case rel => exact ⟨k + 1, by omega, by go_num, HC.out, below_drewN hbel _, fun j hj => by by_cases e : j = k; (· subst e; exact HLT.out); exact HK.out j (by omega)⟩
          case measure => simp [intOf]; omega
      · obtain rfl : n = k + 1 := by omega
        have HRI : Hid (Rises F (k + 1)) := rises_of fun i hi => HK.out i (by omega)
        clear HK
        go_wp2
        go_loop [12, 13] (fun c i => ∃ (p : Nat) (r : Bool), p ≤ k + 1 ∧ i = .int .i64 p ∧ c = .bool r ∧ Hid (∀ j, j < p → F j < ne ∧ (F j = cr ∨ mi ≤ F j))) (fun _ i => k + 1 - (intOf i).toNat)
        case atStart => exact ⟨0, false, Nat.zero_le _, rfl, rfl, fun _ h => by omega⟩
        case round =>
          obtain ⟨p, r, hp, rfl, rfl, HP⟩ := hrel
          by_cases hpl : p < k + 1
          · have x1 := HC.out p (by omega)
            obtain ⟨x, hx⟩ : ∃ x, F p = x := ⟨_, rfl⟩
            rw [hx] at x1
            have HX : Hid (F p = x) := hx
            clear hx
            by_cases hn1 : ne ≤ x
            · go_wp2
              go_ret
              exact ⟨⟨false, rfl, fun h => by cases h⟩, hbel⟩
            · by_cases he : x = cr
              · subst he
                go_wp2
                go_round
                case rel => exact ⟨p + 1, _, by omega, by go_num, rfl, fun j hj => by by_cases e : j = p; (· subst e; exact ⟨by have := HX.out; omega, .inl HX.out⟩); exact HP.out j (by omega)⟩
                case measure => simp [intOf]; omega
              · have hne : (x == cr) = false := by simpa using he
                by_cases hlo : x < mi
                · go_wp2
                  go_ret
                  exact ⟨⟨false, rfl, fun h => by cases h⟩, hbel⟩
                · go_wp2
                  go_round
                  case rel => exact ⟨p + 1, _, by omega, by go_num, rfl, fun j hj => by by_cases e : j = p; (· subst e; exact ⟨by have := HX.out; omega, .inr (by have := HX.out; omega)⟩); exact HP.out j (by omega)⟩
                  case measure => simp [intOf]; omega
          · obtain rfl : p = k + 1 := by omega
            go_wp2
            go_ret
            exact ⟨⟨r, rfl, fun _ => ⟨by omega, HRI.out, HP.out⟩⟩, hbel⟩
end Go.Proofs.Qxb6603640a
