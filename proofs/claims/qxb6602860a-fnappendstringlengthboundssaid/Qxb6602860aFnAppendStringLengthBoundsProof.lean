/-
  'Rows.FnAppendStringLengthBoundsSaid', PROVED: the walk of FnAppendStringLengthBounds over appendString's contract (Qxb6602860aApp), then the row's step (the guide's frame, its end by 'Below').
-/
import Derived.Test.Qxb6602860aApp
import Derived.ProofKit
import Derived.OpenShut
import Derived.ShutString
import Derived.ChangeOld
import Derived.Below
namespace Go.Proofs.Qxb6602860a.fnAppendStringLengthBounds
open Go.ChangeShapes Go.WideShapes Go.ChangeAt Go.RowKit
open Go.ChangeMaps (open_string shut_string)

theorem own : ownKnob Try.prog.godebug = none := by kernel_rfl

/-- Do the first k bytes all stand for themselves? -/
def allP (L : List UInt8) (k : Nat) : Bool := (L.take k).all plainB

theorem all_snoc {L : List UInt8} {k : Nat} (h : k < L.length) : allP L (k + 1) = (allP L k && plainB L[k]) := by
  unfold allP
  rw [List.take_succ_eq_append_getElem h, List.all_append]; simp

theorem ret_bool {a b : Bool} (h : a = b) : Ending.returned (.bool a) = .returned (.bool b) := by rw [h]

theorem zz_len (s : ByteArray) (w : World) (hs : s.size ≤ 1048576) (N : Nat) (HN : N = (esc s.data.toList).length) :
    Calls Try.prog 11 #[.slice none 0 0, .string s] w fun e w' => ∃ g cap, e = .returned (.slice (some ⟨g, 0, none⟩) (N + 2) cap) ∧ Below w.heap.size w w' :=
  (zz_nil s w hs).mono fun e w' ⟨v, he, hb⟩ => by
    obtain ⟨g, cap, hv, _⟩ := hb.form (by rw [quoted_len]; omega)
    rw [quoted_len, ← HN] at hv
    exact ⟨g, cap, by rw [he, hv], hb.2.1⟩

theorem len_end {L : List UInt8} {n N : Nat} (HL : L.length = n) (HN : N = (esc L).length) : (((N : Int) == (n : Int)) == allP L n) = true := by
  have h := esc_len_eq L
  have e : allP L n = L.all plainB := by unfold allP; rw [List.take_of_length_le (by omega)]
  rw [e, beq_iff_eq]
  rcases hb : L.all plainB with _ | _
  · have : ¬ (esc L).length = L.length := fun q => by rw [h.1 q] at hb; cases hb
    simp; omega
  · have := h.2 hb
    simp; omega

set_option maxHeartbeats 1000000 in
theorem walk (s : ByteArray) (hs0 : s.size ≤ maxLen) (w : World) :
    Calls Try.prog 5 #[.string s] w fun e w' => e = .returned (.bool true) ∧ Below w.heap.size w w' := by
  unfold maxLen at hs0
  by_cases hs : s.size ≤ 1048576
  · have HL : Hid (s.data.toList.length = s.size) := by show _ = _; rw [Array.length_toList]; rfl
    obtain ⟨N, HN⟩ : ∃ N, Hid (N = (esc s.data.toList).length) := ⟨_, rfl⟩
    have hN1 : s.size ≤ N ∧ N ≤ 6 * s.size := by have := esc_len s.data.toList; rw [HN.out]; rw [HL.out] at this; exact this
    obtain ⟨hN1, hN2⟩ := hN1
    go_enter Try.func5, Try.ntmps5
    go_wp2_with (first | (go_at_call 11; refine (zz_len s _ hs N HN.out).mono ?_; rintro e w1 ⟨g, cap, rfl, hbel⟩) | go_in)
    go_loop [5, 6] (fun p i => ∃ k : Nat, k ≤ s.size ∧ i = .int .i64 k ∧ p = .bool (allP s.data.toList k)) (fun _ i => s.size - (intOf i).toNat)
    case atStart => exact ⟨0, Nat.zero_le _, rfl, by simp [allP]⟩
    case round =>
      obtain ⟨k, hk, rfl, rfl⟩ := hrel
      by_cases hlt : k < s.size
      · have hk' : k < s.data.toList.length := by rw [HL.out]; exact hlt
        have HS : Hid (allP s.data.toList (k + 1) = (allP s.data.toList k && plainB s[k])) := all_snoc hk'
        by_cases hp : plainB s[k] = true
        · have HP : Hid (plainB s[k] = true) := hp
          simp only [plainB, Bool.and_eq_true, decide_eq_true_eq, Bool.not_eq_true', beq_eq_false_iff_ne] at hp
          have h1 : (32 : Int) ≤ (s[k].toNat : Int) := by omega
          have h2 : ¬ (s[k].toNat : Int) = 34 := by omega
          have h3 : ((s[k].toNat : Int) == 34) = false := by simp; omega
          have h4 : ((s[k].toNat : Int) == 92) = false := by simp; omega
          clear hp
          go_wp2
          go_round
          case rel => exact ⟨k + 1, by omega, by go_num, by rw [HS.out, HP.out, Bool.and_true]⟩
          case measure => simp [intOf]; omega
        · have HP : Hid (plainB s[k] = false) := Bool.eq_false_iff.2 hp
          have hq : (s[k].toNat : Int) < 32 ∨ (s[k].toNat : Int) = 34 ∨ (s[k].toNat : Int) = 92 := by
            simp [plainB] at hp; omega
          clear hp
          rcases hq with hq | hq | hq
          all_goals
            go_wp2
            go_round
            case rel => exact ⟨k + 1, by omega, by go_num, by rw [HS.out, HP.out, Bool.and_false]⟩
            case measure => simp [intOf]; omega
      · obtain rfl : k = s.size := by omega
        go_wp2
        go_ret
        exact ⟨ret_bool (len_end HL.out HN.out), hbel⟩
  · go_enter Try.func5, Try.ntmps5
    go_wp2
    go_ret
    exact ⟨rfl, Below.refl _ _⟩
/-! ### THE ROW's STEP: WRITTEN OUT: LEAVE IT -/
set_option maxRecDepth 100000 in
theorem lifted (os : Os) (started : os.Started) (H : Type) (enc : TypeId × Value → H) :
    ReturnsInHanded {} Try.checked os 5 .any (Rows.fnAppendStringLengthBoundsSpec.pre6 enc Try.prog Try.f5 Rows.fnAppendStringLengthBoundsRow.domain false) (Rows.fnAppendStringLengthBoundsSpec.post enc Try.prog Try.f5 false true false false) := by
  refine returnsInHanded_of_change (C := Try.checked) own started (by kernel_rfl) Try.func5
    (ChangeSpec.witness6 (enc := enc) (C := Try.checked) false ⟨#[], #[.string ByteArray.empty], []⟩ 8 (by kernel_rfl) (by kernel_rfl) (by kernel_rfl) (by kernel_rfl)) ?_
  intro W base args ds gs before hval0 hW hcnd _
  have hval : ∀ (j : Nat) t v, Try.f5.params[j]? = some t → args[j]? = some v → Value.okWide Try.prog W .any base t v := hval0
  have hW' := hW
  obtain ⟨p, q, hA0, hV, rfl, hfz, hnd⟩ := hW
  have hA : DataW.TrodAll enc Try.prog W 0 (fun _ => true) true Try.f5.params.toList args.toList ds p := hA0
  rw [Try.params5] at hA hval
  obtain ⟨v0, vs0, d0, ds0, p0, q0, hargs, rfl, rfl, h0, r0⟩ := trodAll_cons hA
  obtain ⟨rfl, rfl, rfl⟩ := trodAll_nil r0
  obtain rfl : args = #[v0] := by cases args; simp_all
  obtain ⟨rfl, rfl⟩ := trodVars_none hV
  obtain ⟨a0, rfl, rfl, rfl, w0⟩ := open_string Try.underlying9 (hval 0 9 v0 rfl rfl) h0
  clear hA0 hval0
  simp only [List.append_nil] at hW'
  refine (walk a0 w0 W).mono fun e W' ⟨he, bel⟩ => ?_
  subst he
  exact ⟨_, rfl, _, _, _, [], [], [], hW', trodAll_mk1 (shut_bool Try.underlying4 _), (trodAll_cons_mk (shut_string Try.underlying9 w0) trodAll_mk0), rfl, bel.frame _, fun h => by cases h⟩

theorem over : Rows.fnAppendStringLengthBoundsRow.holds Try.pinned (OpenSpec.ofChange Rows.fnAppendStringLengthBoundsSpec) :=
  OpenClaim.holds_of_wide 5 Try.f5 rfl rfl rfl rfl rfl rfl rfl ⟨rfl, rfl, rfl, rfl, rfl⟩ rfl rfl rfl rfl rfl (by kernel_rfl) Try.func5 (by kernel_rfl)
    (of_decide_eq_true (by kernel_rfl)) (by unfold Func.isWrapper; first | (rw [if_pos (by decide +kernel)]; kernel_rfl) | (rw [if_neg (by decide +kernel)]; exact ⟨rfl, rfl⟩))
    (fun os started H enc _ => lifted os started H enc)

/-- ████ THE STATEMENT ████ -/
theorem proved : Rows.FnAppendStringLengthBoundsSaid :=
  over
#print axioms proved
end Go.Proofs.Qxb6602860a.fnAppendStringLengthBounds
