/-
  'Rows.FnMatchesOwnFieldsUnlessNaNSaid', PROVED: the walk over the contracts of toTemplate, toTuple (Qxb6602860aFields), Matches (Qxb6602860aMatches) and the counting functions (Qxb6602860aCounts), then the row's step.
-/
import Derived.Test.Qxb6602860aCounts
import Derived.Test.Qxb6602860aOpen
import Derived.ProofKit
import Derived.OpenShut
import Derived.ShutString
import Derived.ChangeOld
import Derived.Below
namespace Go.Proofs.Qxb6602860a.fnMatchesOwnFieldsUnlessNaN
open Go.ChangeShapes Go.WideShapes Go.ChangeAt Go.RowKit

theorem own : ownKnob Try.prog.godebug = none := by kernel_rfl
theorem laidOut : laidOutB Try.prog = true := by kernel_rfl

/-- Does the j-th field spoil the match with itself: is it no wildcard, and is its float a NaN? -/
def spoils (Z : Nat → ZF) (j : Nat) : Bool := ((Z j).k != 0) && nanB (Z j).f

theorem meets_self (Z : Nat → ZF) (j : Nat) : Meets (Z j) (Z j) (spoils Z j) := by
  by_cases h : (Z j).k = 0
  · exact .inl ⟨h, by simp [spoils, h]⟩
  · exact .inr ⟨h, rfl, by simp [spoils, h]⟩

set_option maxHeartbeats 1000000 in
theorem walk0 (ao : Option Addr) (n cap : Nat) (Z : Nat → ZF) (w : World) (hn : n ≤ 65536) (h : HasZ w ao n Z) :
    Calls Try.prog 7 #[.slice ao n cap] w fun e w' => e = .returned (.bool true) ∧ Below w.heap.size w w' := by
  have H : Hid (HasZ w ao n Z) := h
  clear h
  go_enter Try.func7, Try.ntmps7
  go_wp2_with fail
  refine (b21 ao n cap Z w (by omega) H.out).mono ?_
  rintro e w' ⟨⟨r, rfl⟩, rfl⟩
  cases r with
  | false =>
    go_wp2
    go_ret
    exact ⟨rfl, Below.refl _ _⟩
  | true =>
    go_wp2_with fail
    refine (zbytes_any ao n cap Z w hn H.out).mono ?_
    rintro e w' ⟨⟨r, rfl⟩, rfl⟩
    by_cases hr : 1048576 < r
    · go_wp2
      go_ret
      exact ⟨rfl, Below.refl _ _⟩
    · go_wp2
      go_loopw [3, 4] (fun t i wr => ∃ k nq : Nat, k ≤ n ∧ i = .int .i64 k ∧ t = .bool (noneB (spoils Z) k) ∧ wr = w.drewN nq) (fun _ i _ => n - (intOf i).toNat)
      case atStart => exact ⟨0, 0, Nat.zero_le _, rfl, rfl, rfl⟩
      case round =>
        obtain ⟨k, nq, hk, rfl, rfl, rfl⟩ := hrel
        by_cases hkl : k < n
        · rcases H.out.2 with h0 | ⟨b, off, rfl, hb, hc⟩
          · omega
          obtain ⟨c1, c2, c3, c4, c5⟩ := hc k hkl
          have HN : Hid (noneB (spoils Z) (k + 1) = (noneB (spoils Z) k && !(spoils Z k))) := noneB_succ _ _
          by_cases hz : (Z k).k = 0
          · have HS : Hid (spoils Z k = false) := by simp [Hid, spoils, hz]
            rw [hz] at c1
            clear hc c2 c3 c4 c5
            go_wp2
            go_quiet (fail)
            go_wp2
            go_roundw
            case rel => exact ⟨k + 1, _, by omega, by go_num, by rw [HN.out, HS.out]; simp, rfl⟩
            case measure => simp [intOf]; omega
          · obtain ⟨z, hz'⟩ : ∃ z, Z k = z := ⟨_, rfl⟩
            rw [hz'] at c1 c4 hz
            have hne : (z.k != 0) = true := by simpa using hz
            have HS : Hid (spoils Z k = nanB z.f) := by show _ = _; unfold spoils; rw [hz', hne, Bool.true_and]
            clear hc c2 c3 c5 hz'
            rcases hnan : nanB z.f with _ | _
            · have HS' : Hid (spoils Z k = false) := HS.out.trans hnan
              unfold nanB at hnan
              go_wp2
              go_quiet (fail)
              go_wp2
              go_roundw
              case rel => exact ⟨k + 1, _, by omega, by go_num, by rw [HN.out, HS'.out]; simp, rfl⟩
              case measure => simp [intOf]; omega
            · have HS' : Hid (spoils Z k = true) := HS.out.trans hnan
              unfold nanB at hnan
              go_wp2
              go_quiet (fail)
              go_wp2
              go_roundw
              case rel => exact ⟨k + 1, _, by omega, by go_num, by rw [HN.out, HS'.out]; simp, rfl⟩
              case measure => simp [intOf]; omega
        · obtain rfl : k = n := by omega
          have hb0 : Below w.heap.size w (w.drewN nq) := below_drewN (Below.refl _ _) _
          go_wp2_with fail
          refine (totemplate_any ao k cap Z (w.drewN nq) hn (HasZ.later H.out hb0)).mono ?_
          rintro e w1 ⟨ap, rfl, h1, hb1⟩
          have H1 : Hid _ := h1
          have hB1 : Below w.heap.size w w1 := hb0.trans hb1
          go_wp2_with fail
          refine (totuple_any ao k cap Z w1 hn (HasZ.later H.out hB1)).mono ?_
          rintro e w2 ⟨at', rfl, h2, hb2⟩
          have hB2 : Below w.heap.size w w2 := hB1.trans (hb2.mono hB1.size)
          have H1' : Hid (HasZ w2 ap k Z) := HasZ.later H1.out hb2
          have H2 : Hid (HasZ w2 at' k Z) := h2
          clear h1 h2 H1
          go_wp2_with fail
          refine (matches_same ap k at' k k Z Z (spoils Z) w2 hn H1'.out H2.out (fun j _ => meets_self Z j)).mono ?_
          rintro e w3 ⟨rfl, hb3⟩
          go_wp2
          go_ret
          exact ⟨rfl, hB2.trans (hb3.mono hB2.size)⟩

set_option maxHeartbeats 400000 in
theorem walk (ao : Option Addr) (n cap : Nat) (Z : Nat → ZF) (w : World) (hn : n ≤ maxLen) (h : HasZ w ao n Z) :
    Calls Try.prog 7 #[.slice ao n cap] w fun e w' => e = .returned (.bool true) ∧ Below w.heap.size w w' := by
  by_cases hs : n ≤ 65536
  · exact walk0 ao n cap Z w hs h
  · unfold maxLen at hn
    have H : Hid (HasZ w ao n Z) := h
    clear h
    go_enter Try.func7, Try.ntmps7
    go_wp2_with fail
    refine (b21 ao n cap Z w (by omega) H.out).mono ?_
    rintro e w' ⟨⟨r, rfl⟩, rfl⟩
    cases r with
    | false =>
      go_wp2
      go_ret
      exact ⟨rfl, Below.refl _ _⟩
    | true =>
      go_wp2
      go_ret
      exact ⟨rfl, Below.refl _ _⟩

/-! ### THE ROW's STEP -/
set_option maxRecDepth 100000 in
theorem lifted (os : Os) (started : os.Started) (H : Type) (enc : TypeId × Value → H) :
    ReturnsInHanded {} Try.checked os 7 .any (Rows.fnMatchesOwnFieldsUnlessNaNSpec.pre6 enc Try.prog Try.f7 Rows.fnMatchesOwnFieldsUnlessNaNRow.domain false) (Rows.fnMatchesOwnFieldsUnlessNaNSpec.post enc Try.prog Try.f7 false true false false) := by
  refine returnsInHanded_of_change (C := Try.checked) own started (by kernel_rfl) Try.func7
    (ChangeSpec.witness6 (enc := enc) (C := Try.checked) false ⟨#[], #[.slice none 0 0], []⟩ 8 (by kernel_rfl) (by kernel_rfl) (by kernel_rfl) (by kernel_rfl)) ?_
  intro W base args ds gs before hval0 hW hcnd _
  have hval : ∀ (j : Nat) t v, Try.f7.params[j]? = some t → args[j]? = some v → Value.okWide Try.prog W .any base t v := hval0
  have hW' := hW
  obtain ⟨p, q, hA0, hV, rfl, hfz, hnd⟩ := hW
  have hA : DataW.TrodAll enc Try.prog W 0 (fun _ => true) true Try.f7.params.toList args.toList ds p := hA0
  rw [Try.params7] at hA hval
  obtain ⟨v0, vs0, d0, ds0, p0, q0, hargs, rfl, rfl, h0, r0⟩ := trodAll_cons hA
  obtain ⟨rfl, rfl, rfl⟩ := trodAll_nil r0
  obtain rfl : args = #[v0] := by cases args; simp_all
  obtain ⟨rfl, rfl⟩ := trodVars_none hV
  obtain ⟨a0, len0, cap0, rfl⟩ := okWide_slice Try.underlying30 (hval 0 30 v0 rfl rfl)
  have k0 := h0
  have lt0 : ∀ x ∈ p0, x.block < W.heap.size := by obtain ⟨m, hm⟩ := k0; exact DataW.trod_lt m _ _ _ hm
  obtain ⟨w0, Z0, z0⟩ := open_fields h0
  clear hA0 hval0
  refine (walk a0 len0 cap0 Z0 W w0 z0).mono fun e W' ⟨he, bel⟩ => ?_
  subst he
  exact ⟨_, rfl, _, _, _, [], _, [], hW', trodAll_mk1 (shut_bool Try.underlying4 _), (trodAll_cons_mk (Below.trod laidOut (by kernel_rfl) (of_decide_eq_true (by kernel_rfl)) k0 bel lt0) trodAll_mk0), rfl, bel.frame _, fun h => by cases h⟩

theorem over : Rows.fnMatchesOwnFieldsUnlessNaNRow.holds Try.pinned (OpenSpec.ofChange Rows.fnMatchesOwnFieldsUnlessNaNSpec) :=
  OpenClaim.holds_of_wide 7 Try.f7 rfl rfl rfl rfl rfl rfl rfl ⟨rfl, rfl, rfl, rfl, rfl⟩ rfl rfl rfl rfl rfl (by kernel_rfl) Try.func7 (by kernel_rfl)
    (of_decide_eq_true (by kernel_rfl)) (by unfold Func.isWrapper; first | (rw [if_pos (by decide +kernel)]; kernel_rfl) | (rw [if_neg (by decide +kernel)]; exact ⟨rfl, rfl⟩))
    (fun os started H enc _ => lifted os started H enc)

/-- THE STATEMENT -/
theorem proved : Rows.FnMatchesOwnFieldsUnlessNaNSaid := over
#print axioms proved
end Go.Proofs.Qxb6602860a.fnMatchesOwnFieldsUnlessNaN
