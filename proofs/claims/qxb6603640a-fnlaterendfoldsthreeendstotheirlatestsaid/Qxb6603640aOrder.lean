/-
  THE ORDER OF BYTE STRINGS, AND THE LATER OF TWO ENDS ('none': an open end, above all): no Go in sight, but for the model's own 'bytesLess'.
-/
import GoSem.Op.String
namespace Go.Proofs.Qxb6603640a
open Go.Op (bytesLess)

theorem less_irrefl : ∀ x : List UInt8, bytesLess x x = false
  | [] => rfl
  | a :: x => by simp [bytesLess, less_irrefl x]

theorem less_trans : ∀ {x y z : List UInt8}, bytesLess x y = true → bytesLess y z = true → bytesLess x z = true
  | _, [], _, h, _ => by simp [bytesLess] at h
  | _, _ :: _, [], _, h => by simp [bytesLess] at h
  | [], _ :: _, _ :: _, _, _ => rfl
  | a :: x, b :: y, c :: z, h1, h2 => by
    simp only [bytesLess, Bool.or_eq_true, decide_eq_true_eq, Bool.and_eq_true, beq_iff_eq] at h1 h2 ⊢
    rcases h1 with h1 | ⟨rfl, h1⟩
    · rcases h2 with h2 | ⟨rfl, h2⟩
      · exact .inl (UInt8.lt_trans h1 h2)
      · exact .inl h1
    · rcases h2 with h2 | ⟨rfl, h2⟩
      · exact .inl h2
      · exact .inr ⟨rfl, less_trans h1 h2⟩

theorem less_total : ∀ {x y : List UInt8}, bytesLess x y = false → bytesLess y x = false → x = y
  | [], [], _, _ => rfl
  | [], _ :: _, h, _ => by simp [bytesLess] at h
  | _ :: _, [], _, h => by simp [bytesLess] at h
  | a :: x, b :: y, h1, h2 => by
    simp only [bytesLess, Bool.or_eq_false_iff, decide_eq_false_iff_not, UInt8.not_lt] at h1 h2
    have e : a = b := UInt8.le_antisymm h2.1 h1.1
    subst e
    simp at h1 h2
    rw [less_total h1 h2]

theorem less_asymm {x y : List UInt8} (h : bytesLess x y = true) : bytesLess y x = false := by
  rw [Bool.eq_false_iff]
  intro h2
  have := less_trans h h2
  rw [less_irrefl] at this
  cases this

/-- 'Not below' goes on. -/
theorem not_less_trans {x y z : List UInt8} (h1 : bytesLess x y = false) (h2 : bytesLess y z = false) : bytesLess x z = false := by
  rw [Bool.eq_false_iff]
  intro h3
  rcases h : bytesLess y x with _ | _
  · have := less_total h1 h
    subst this
    rw [h2] at h3; cases h3
  · have := less_trans h h3
    rw [h2] at this; cases this

/-- A common beginning does not matter. -/
theorem less_prefix : ∀ (p x y : List UInt8), bytesLess (p ++ x) (p ++ y) = bytesLess x y
  | [], _, _ => rfl
  | a :: p, x, y => by simp [bytesLess, less_prefix p x y]

/-- The later of two ends. -/
def later : Option (List UInt8) → Option (List UInt8) → Option (List UInt8)
  | none, _ => none
  | some _, none => none
  | some x, some y => if bytesLess x y then some y else some x

theorem later_open (a : Option (List UInt8)) : later a none = none := by cases a <;> rfl

theorem later_comm (a b : Option (List UInt8)) : later a b = later b a := by
  cases a with
  | none => cases b <;> rfl
  | some x =>
    cases b with
    | none => rfl
    | some y =>
      simp only [later]
      rcases h : bytesLess x y with _ | _
      · rcases h2 : bytesLess y x with _ | _
        · simp [less_total h h2]
        · simp
      · simp [less_asymm h]

theorem later_assoc (a b c : Option (List UInt8)) : later (later a b) c = later a (later b c) := by
  cases a with
  | none => rfl
  | some x =>
    cases b with
    | none => cases c <;> rfl
    | some y =>
      cases c with
      | none => rw [later_open, later_open]; rfl
      | some z =>
        simp only [later]
        rcases h : bytesLess x y with _ | _
        · rcases h2 : bytesLess y z with _ | _
          · simp [h, not_less_trans h h2]
          · simp
        · rcases h2 : bytesLess y z with _ | _
          · simp [h, h2]
          · simp [less_trans h h2, h2]

/-- Of two ends that are not open the later one is one of them, and lies below neither. -/
theorem later_some (x y : List UInt8) : ∃ m, later (some x) (some y) = some m ∧ (m = x ∨ m = y) ∧ bytesLess m x = false ∧ bytesLess m y = false := by
  simp only [later]
  rcases h : bytesLess x y with _ | _
  · exact ⟨x, by simp, .inl rfl, less_irrefl x, h⟩
  · exact ⟨y, by simp, .inr rfl, less_asymm h, less_irrefl y⟩

/-- Of three. -/
theorem later_three (x y z : List UInt8) : ∃ m, later (later (some x) (some y)) (some z) = some m ∧ (m = x ∨ m = y ∨ m = z) ∧ bytesLess m x = false ∧ bytesLess m y = false ∧ bytesLess m z = false := by
  obtain ⟨m, h1, h2, h3, h4⟩ := later_some x y
  obtain ⟨k, k1, k2, k3, k4⟩ := later_some m z
  rw [h1]
  refine ⟨k, k1, ?_, not_less_trans k3 h3, not_less_trans k3 h4, k4⟩
  rcases k2 with rfl | rfl
  · rcases h2 with rfl | rfl
    · exact .inl rfl
    · exact .inr (.inl rfl)
  · exact .inr (.inr rfl)

end Go.Proofs.Qxb6603640a
