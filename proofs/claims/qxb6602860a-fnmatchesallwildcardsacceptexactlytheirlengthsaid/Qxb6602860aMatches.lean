/-
  THE WALK OF (Template).Matches, at the two cases the laws need: lengths that differ; fields that are the wildcard or are the same on both sides.
-/
import Derived.Test.Qxb6602860aFields
import Derived.Deep.QuietTactic
import Derived.BigQuiet
namespace Go.Proofs.Qxb6602860a
open Go.RowKit
attribute [local go_sem] run_store_float

/-- Does none of the first n differ? -/
def noneB (D : Nat → Bool) (n : Nat) : Bool := (List.range n).all fun j => !D j
theorem noneB_succ (D : Nat → Bool) (n : Nat) : noneB D (n + 1) = (noneB D n && !D n) := by
  simp [noneB, List.range_succ]
theorem noneB_false {D : Nat → Bool} {n k : Nat} (hk : k < n) (h : D k = true) : noneB D n = false := by
  unfold noneB
  rw [Bool.eq_false_iff]
  intro e
  rw [List.all_eq_true] at e
  have := e k (List.mem_range.2 hk)
  simp [h] at this

/-- What Matches sees at a place: the template's field is the wildcard; or both sides hold the same field. -/
def Meets (p t : ZF) (d : Bool) : Prop := (p.k = 0 ∧ d = false) ∨ (p.k ≠ 0 ∧ p = t ∧ d = nanB p.f)

theorem HasZ.later {w w' : World} {ao : Option Addr} {n : Nat} {Z : Nat → ZF} (h : HasZ w ao n Z) (hb : Below w.heap.size w w') : HasZ w' ao n Z := by
  refine ⟨h.1, ?_⟩
  rcases h.2 with h2 | ⟨b, off, e, hlt, hc⟩
  · exact .inl h2
  · exact .inr ⟨b, off, e, Nat.lt_of_lt_of_le hlt hb.size, fun j hj => z5_old (hc j hj) fun c _ => hb.cell (p := ⟨b, off + j * 5 + c, none⟩) hlt⟩

set_option maxHeartbeats 1000000 in
theorem matches_same (ap : Option Addr) (cp : Nat) (at' : Option Addr) (ct n : Nat) (Zp Zt : Nat → ZF) (D : Nat → Bool) (w : World) (hn : n ≤ 65536) (hp : HasZ w ap n Zp) (ht : HasZ w at' n Zt)
    (hm : ∀ j, j < n → Meets (Zp j) (Zt j) (D j)) :
    Calls Try.prog 19 #[.slice ap n cp, .slice at' n ct] w fun e w' => e = .returned (.bool (noneB D n)) ∧ Below w.heap.size w w' := by
  have HP : Hid (HasZ w ap n Zp) := hp
  have HT : Hid (HasZ w at' n Zt) := ht
  have HM : Hid (∀ j, j < n → Meets (Zp j) (Zt j) (D j)) := hm
  clear hp ht hm
  go_enter Try.func19, Try.ntmps19
  go_wp2
  go_loopw [14] (fun i wr => ∃ k : Nat, k ≤ n ∧ i = .int .i64 k ∧ Hid (noneB D k = true) ∧ Below w.heap.size w wr) (fun i _ => n - (intOf i).toNat)
  case atStart => exact ⟨0, Nat.zero_le _, rfl, by simp [Hid, noneB], Below.refl _ _⟩
  case round =>
    obtain ⟨k, hk, rfl, HN, hbel⟩ := hrel
    by_cases hkl : k < n
    · rcases HP.out.2 with h0 | ⟨bp, op, rfl, hbp, hcp⟩
      · omega
      rcases HT.out.2 with h0 | ⟨bt, ot, rfl, hbt, hct⟩
      · omega
      have P5 : Z5 wr bp (op + k * 5) (Zp k) := z5_old (hcp k hkl) fun c _ => hbel.cell (p := ⟨bp, op + k * 5 + c, none⟩) hbp
      have T5 : Z5 wr bt (ot + k * 5) (Zt k) := z5_old (hct k hkl) fun c _ => hbel.cell (p := ⟨bt, ot + k * 5 + c, none⟩) hbt
      have hM := HM.out k hkl
      have hbt' : bt < wr.heap.size := Nat.lt_of_lt_of_le hbt hbel.size
      have hbp' : bp < wr.heap.size := Nat.lt_of_lt_of_le hbp hbel.size
      obtain ⟨zp, hzp⟩ : ∃ z, Zp k = z := ⟨_, rfl⟩
      obtain ⟨zt, hzt⟩ : ∃ z, Zt k = z := ⟨_, rfl⟩
      rw [hzp] at P5 hM
      rw [hzt] at T5 hM
      clear hcp hct hzp hzt
      obtain ⟨d, hd⟩ : ∃ d, D k = d := ⟨_, rfl⟩
      rw [hd] at hM
      have HD : Hid (D k = d) := hd
      clear hd
      obtain ⟨kp, b, i, f, s⟩ := zp
      rcases hM with ⟨h0, h1⟩ | ⟨h0, h1, h2⟩
      · simp only at h0
        subst h0 h1
        obtain ⟨p1, p2, p3, p4, p5⟩ := P5
        simp only at p1 p2 p3 p4 p5
        clear T5
        go_wp2
        go_quiet (fail)
        go_wp2
        go_roundw
        case rel => exact ⟨k + 1, by omega, by go_num, by show _ = _; rw [noneB_succ, HN.out, HD.out]; rfl, below_drewN (hbel.alloc hbel.size _) _⟩
        case measure => simp [intOf]; omega
      · simp only at h0 h2
        subst h1
        obtain ⟨p1, p2, p3, p4, p5⟩ := P5
        obtain ⟨t1, t2, t3, t4, t5⟩ := T5
        simp only at p1 p2 p3 p4 p5 t1 t2 t3 t4 t5
        have hne : (kp != 0) = true := by simpa using h0
        have h44 := neq44 kp b i f s
        rcases hnan : nanB f with _ | _
        · rw [hnan] at h44 h2
          subst h2
          clear hnan
          go_wp2
          go_quiet (fail)
          go_wp2
          go_roundw
          case rel => exact ⟨k + 1, by omega, by go_num, by show _ = _; rw [noneB_succ, HN.out, HD.out]; rfl, below_drewN (hbel.alloc hbel.size _) _⟩
          case measure => simp [intOf]; omega
        · rw [hnan] at h44 h2
          subst h2
          clear hnan
          go_wp2
          go_quiet (fail)
          go_wp2
          go_ret
          exact ⟨by rw [noneB_false hkl HD.out]; rfl, below_drewN (hbel.alloc hbel.size _) _⟩
    · obtain rfl : k = n := by omega
      go_wp2
      go_ret
      exact ⟨by rw [HN.out]; rfl, hbel⟩

set_option maxHeartbeats 400000 in
theorem matches_len (ap : Option Addr) (cp : Nat) (at' : Option Addr) (ct n m : Nat) (w : World) (hne : n ≠ m) :
    Calls Try.prog 19 #[.slice ap n cp, .slice at' m ct] w fun e w' => e = .returned (.bool false) ∧ w = w' := by
  have h1 : ((n : Int) != (m : Int)) = true := by simp; omega
  go_enter Try.func19, Try.ntmps19
  go_wp2
  go_ret
  exact ⟨rfl, rfl⟩
end Go.Proofs.Qxb6602860a
