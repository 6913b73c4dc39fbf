/-
  THE PLAIN SPELLING OF A BYTE STRING AS A JSON STRING: no Go in sight.
-/
namespace Go.Proofs.Qxb6602860a

/-- The digit of a number below 16. -/
def hexD (k : Nat) : UInt8 := if k < 10 then UInt8.ofNat (48 + k) else UInt8.ofNat (87 + k)

/-- Does the byte stand for itself? -/
def plainB (c : UInt8) : Bool := decide (32 ≤ c.toNat) && !(c.toNat == 34) && !(c.toNat == 92)

/-- One byte, spelt. -/
def escB (c : UInt8) : List UInt8 :=
  if plainB c then [c]
  else if c.toNat = 34 then [92, 34]
  else if c.toNat = 92 then [92, 92]
  else if c.toNat = 10 then [92, 110]
  else if c.toNat = 13 then [92, 114]
  else if c.toNat = 9 then [92, 116]
  else if c.toNat = 8 then [92, 98]
  else if c.toNat = 12 then [92, 102]
  else [92, 117, 48, 48, hexD (c.toNat / 16), hexD (c.toNat % 16)]

/-- A byte string, spelt, without its quotes. -/
def esc : List UInt8 → List UInt8
  | [] => []
  | c :: l => escB c ++ esc l

theorem esc_append : ∀ (a b : List UInt8), esc (a ++ b) = esc a ++ esc b
  | [], _ => rfl
  | c :: a, b => by simp [esc, esc_append a b]

theorem esc_one (c : UInt8) : esc [c] = escB c := by simp [esc]

theorem escB_len (c : UInt8) : 1 ≤ (escB c).length ∧ (escB c).length ≤ 6 := by
  unfold escB
  repeat' split
  all_goals simp

theorem esc_len (l : List UInt8) : l.length ≤ (esc l).length ∧ (esc l).length ≤ 6 * l.length := by
  induction l with
  | nil => simp [esc]
  | cons c l ih =>
    have := escB_len c
    simp only [esc, List.length_append, List.length_cons]
    omega

theorem escB_plain {c : UInt8} (h : plainB c = true) : escB c = [c] := by simp [escB, h]

theorem escB_long {c : UInt8} (h : plainB c = false) : 2 ≤ (escB c).length := by
  unfold escB
  simp only [h]
  repeat' split
  all_goals simp_all

/-- The spelling is as long as the string just where every byte stands for itself. -/
theorem esc_len_eq (l : List UInt8) : ((esc l).length = l.length) ↔ l.all plainB = true := by
  induction l with
  | nil => simp [esc]
  | cons c l ih =>
    have hl := esc_len l
    have hb := escB_len c
    simp only [esc, List.length_append, List.length_cons, List.all_cons, Bool.and_eq_true]
    rcases hp : plainB c with _ | _
    · have := escB_long hp
      constructor
      · intro h; omega
      · intro h; simp at h
    · rw [escB_plain hp]
      simp only [List.length_cons, List.length_nil, true_and]
      rw [← ih]
      omega

/-- The whole spelling, quotes and all. -/
def quoted (l : List UInt8) : List UInt8 := 34 :: (esc l ++ [34])

theorem quoted_len (l : List UInt8) : (quoted l).length = (esc l).length + 2 := by simp [quoted]

/-- The spelling of a concatenation. -/
theorem quoted_append (a b : List UInt8) : quoted (a ++ b) = (quoted a).dropLast ++ (quoted b).tail := by
  simp [quoted, esc_append, List.dropLast_cons_of_ne_nil]

end Go.Proofs.Qxb6602860a
