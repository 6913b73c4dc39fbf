/-
  'Rows.FnMatchesAllWildcardsAcceptExactlyTheirLengthSaid', PROVED: the walk over the contracts of toTemplate, toTuple (Qxb6602860aFields), Matches (Qxb6602860aMatches) and the counting functions (Qxb6602860aCounts), then the row's step.
-/
import Derived.Test.Qxb6602860aCounts
import Derived.Test.Qxb6602860aOpen
import Derived.ProofKit
import Derived.OpenShut
import Derived.ShutString
import Derived.ChangeOld
import Derived.Below
namespace Go.Proofs.Qxb6602860a.fnMatchesAllWildcardsAcceptExactlyTheirLength
open Go.ChangeShapes Go.WideShapes Go.ChangeAt Go.RowKit

theorem own : ownKnob Try.prog.godebug = none := by kernel_rfl
theorem laidOut : laidOutB Try.prog = true := by kernel_rfl

theorem noneB_no (n : Nat) : noneB (fun _ => false) n = true := by simp [noneB]

set_option maxHeartbeats 1000000 in
theorem walk0 (ap : Option Addr) (n cp : Nat) (Zp : Nat → ZF) (at' : Option Addr) (m ct : Nat) (Zt : Nat → ZF) (w : World) (hn : n ≤ 65536) (hm : m ≤ 65536) (hp : HasZ w ap n Zp) (ht : HasZ w at' m Zt) :
    Calls Try.prog 8 #[.slice ap n cp, .slice at' m ct] w fun e w' => e = .returned (.bool true) ∧ Below w.heap.size w w' := by
  have HP : Hid (HasZ w ap n Zp) := hp
  have HT : Hid (HasZ w at' m Zt) := ht
  clear hp ht
  go_enter Try.func8, Try.ntmps8
  go_wp2_with fail
  refine (b22 ap n cp Zp at' m ct Zt w (by omega) (by omega) HP.out HT.out).mono ?_
  rintro e w' ⟨⟨r, rfl⟩, rfl⟩
  cases r with
  | false =>
    go_wp2
    go_ret
    exact ⟨rfl, Below.refl _ _⟩
  | true =>
    go_wp2_with fail
    refine (zbytes_any ap n cp Zp w hn HP.out).mono ?_
    rintro e w' ⟨⟨r, rfl⟩, rfl⟩
    go_wp2_with fail
    refine (zbytes_any at' m ct Zt w hm HT.out).mono ?_
    rintro e w' ⟨⟨r2, rfl⟩, rfl⟩
    go_wp2
    · go_ret
      exact ⟨rfl, Below.refl _ _⟩
    · go_loop [5] (fun i => ∃ k : Nat, k ≤ n ∧ i = .int .i64 k ∧ Hid (∀ j, j < k → (Zp j).k = 0)) (fun i => n - (intOf i).toNat)
      case atStart => exact ⟨0, Nat.zero_le _, rfl, fun _ h => by omega⟩
      case round =>
        obtain ⟨k, hk, rfl, HK⟩ := hrel
        by_cases hkl : k < n
        · rcases HP.out.2 with h0 | ⟨b, off, rfl, hb, hc⟩
          · omega
          have c1 := (hc k hkl).k
          clear hc
          by_cases hz : (Zp k).k = 0
          · rw [hz] at c1
            have HZ : Hid ((Zp k).k = 0) := hz
            clear hz
            go_wp2
            go_round
            case rel => exact ⟨k + 1, by omega, by go_num, fun j hj => by by_cases e : j = k; (· subst e; exact HZ.out); exact HK.out j (by omega)⟩
            case measure => simp [intOf]; omega
          · obtain ⟨x, hx⟩ : ∃ x, (Zp k).k = x := ⟨_, rfl⟩
            rw [hx] at c1 hz
            have hne : (x != 0) = true := by simpa using hz
            clear hx
            go_wp2
            go_ret
            exact ⟨rfl, Below.refl _ _⟩
        · obtain rfl : k = n := by omega
          go_wp2_with fail
          refine (totemplate_any ap k cp Zp w hn HP.out).mono ?_
          rintro e w1 ⟨ap1, rfl, h1, hb1⟩
          have H1 : Hid (HasZ w1 ap1 k Zp) := h1
          clear h1
          go_wp2_with fail
          refine (totuple_any at' m ct Zt w1 hm (HasZ.later HT.out hb1)).mono ?_
          rintro e w2 ⟨at2, rfl, h2, hb2⟩
          have hB2 : Below w.heap.size w w2 := hb1.trans (hb2.mono hb1.size)
          have H1' : Hid (HasZ w2 ap1 k Zp) := HasZ.later H1.out hb2
          have H2 : Hid (HasZ w2 at2 m Zt) := h2
          clear h2 H1
          go_wp2_with fail
          by_cases hkm : k = m
          · subst hkm
            refine (matches_same ap1 k at2 k k Zp Zt (fun _ => false) w2 hn H1'.out H2.out (fun j hj => .inl ⟨HK.out j hj, rfl⟩)).mono ?_
            rintro e w3 ⟨rfl, hb3⟩
            rw [noneB_no]
            go_wp2
            go_ret
            exact ⟨rfl, hB2.trans (hb3.mono hB2.size)⟩
          · refine (matches_len ap1 k at2 m k m w2 hkm).mono ?_
            rintro e w3 ⟨rfl, rfl⟩
            have hne : ((k : Int) == (m : Int)) = false := by simp; omega
            go_wp2
            go_ret
            exact ⟨rfl, hB2⟩

set_option maxHeartbeats 400000 in
theorem walk (ap : Option Addr) (n cp : Nat) (Zp : Nat → ZF) (at' : Option Addr) (m ct : Nat) (Zt : Nat → ZF) (w : World) (hn : n ≤ maxLen) (hm : m ≤ maxLen) (hp : HasZ w ap n Zp) (ht : HasZ w at' m Zt) :
    Calls Try.prog 8 #[.slice ap n cp, .slice at' m ct] w fun e w' => e = .returned (.bool true) ∧ Below w.heap.size w w' := by
  by_cases hs : n ≤ 65536 ∧ m ≤ 65536
  · exact walk0 ap n cp Zp at' m ct Zt w hs.1 hs.2 hp ht
  · unfold maxLen at hn hm
    have HP : Hid (HasZ w ap n Zp) := hp
    have HT : Hid (HasZ w at' m Zt) := ht
    clear hp ht
    go_enter Try.func8, Try.ntmps8
    go_wp2_with fail
    refine (b22 ap n cp Zp at' m ct Zt w (by omega) (by omega) HP.out HT.out).mono ?_
    rintro e w' ⟨⟨r, rfl⟩, rfl⟩
    cases r with
    | false =>
      go_wp2
      go_ret
      exact ⟨rfl, Below.refl _ _⟩
    | true =>
      by_cases h1 : n ≤ 65536
      · have h2 : 65536 < m := by omega
        clear hs
        go_wp2
        go_ret
        exact ⟨rfl, Below.refl _ _⟩
      · clear hs
        go_wp2
        go_ret
        exact ⟨rfl, Below.refl _ _⟩

/-! ### THE ROW's STEP -/
set_option maxRecDepth 100000 in
theorem lifted (os : Os) (started : os.Started) (H : Type) (enc : TypeId × Value → H) :
    ReturnsInHanded {} Try.checked os 8 .any (Rows.fnMatchesAllWildcardsAcceptExactlyTheirLengthSpec.pre6 enc Try.prog Try.f8 Rows.fnMatchesAllWildcardsAcceptExactlyTheirLengthRow.domain false) (Rows.fnMatchesAllWildcardsAcceptExactlyTheirLengthSpec.post enc Try.prog Try.f8 false true false false) := by
  refine returnsInHanded_of_change (C := Try.checked) own started (by kernel_rfl) Try.func8
    (ChangeSpec.witness6 (enc := enc) (C := Try.checked) false ⟨#[], #[.slice none 0 0, .slice none 0 0], []⟩ 8 (by kernel_rfl) (by kernel_rfl) (by kernel_rfl) (by kernel_rfl)) ?_
  intro W base args ds gs before hval0 hW hcnd _
  have hval : ∀ (j : Nat) t v, Try.f8.params[j]? = some t → args[j]? = some v → Value.okWide Try.prog W .any base t v := hval0
  have hW' := hW
  obtain ⟨p, q, hA0, hV, rfl, hfz, hnd⟩ := hW
  have hA : DataW.TrodAll enc Try.prog W 0 (fun _ => true) true Try.f8.params.toList args.toList ds p := hA0
  rw [Try.params8] at hA hval
  obtain ⟨v0, vs0, d0, ds0, p0, q0, hargs, rfl, rfl, h0, r0⟩ := trodAll_cons hA
  obtain ⟨v1, vs1, d1, ds1, p1, q1, rfl, rfl, rfl, h1, r1⟩ := trodAll_cons r0
  obtain ⟨rfl, rfl, rfl⟩ := trodAll_nil r1
  obtain rfl : args = #[v0, v1] := by cases args; simp_all
  obtain ⟨rfl, rfl⟩ := trodVars_none hV
  obtain ⟨a0, len0, cap0, rfl⟩ := okWide_slice Try.underlying30 (hval 0 30 v0 rfl rfl)
  have k0 := h0
  have lt0 : ∀ x ∈ p0, x.block < W.heap.size := by obtain ⟨m, hm⟩ := k0; exact DataW.trod_lt m _ _ _ hm
  obtain ⟨w0, Z0, z0⟩ := open_fields h0
  obtain ⟨a1, len1, cap1, rfl⟩ := okWide_slice Try.underlying30 (hval 1 30 v1 rfl rfl)
  have k1 := h1
  have lt1 : ∀ x ∈ p1, x.block < W.heap.size := by obtain ⟨m, hm⟩ := k1; exact DataW.trod_lt m _ _ _ hm
  obtain ⟨w1, Z1, z1⟩ := open_fields h1
  clear hA0 hval0
  refine (walk a0 len0 cap0 Z0 a1 len1 cap1 Z1 W w0 w1 z0 z1).mono fun e W' ⟨he, bel⟩ => ?_
  subst he
  exact ⟨_, rfl, _, _, _, [], _, [], hW', trodAll_mk1 (shut_bool Try.underlying4 _), (trodAll_cons_mk (Below.trod laidOut (by kernel_rfl) (of_decide_eq_true (by kernel_rfl)) k0 bel lt0) (trodAll_cons_mk (Below.trod laidOut (by kernel_rfl) (of_decide_eq_true (by kernel_rfl)) k1 bel lt1) trodAll_mk0)), rfl, bel.frame _, fun h => by cases h⟩

theorem over : Rows.fnMatchesAllWildcardsAcceptExactlyTheirLengthRow.holds Try.pinned (OpenSpec.ofChange Rows.fnMatchesAllWildcardsAcceptExactlyTheirLengthSpec) :=
  OpenClaim.holds_of_wide 8 Try.f8 rfl rfl rfl rfl rfl rfl rfl ⟨rfl, rfl, rfl, rfl, rfl⟩ rfl rfl rfl rfl rfl (by kernel_rfl) Try.func8 (by kernel_rfl)
    (of_decide_eq_true (by kernel_rfl)) (by unfold Func.isWrapper; first | (rw [if_pos (by decide +kernel)]; kernel_rfl) | (rw [if_neg (by decide +kernel)]; exact ⟨rfl, rfl⟩))
    (fun os started H enc _ => lifted os started H enc)

/-- THE STATEMENT -/
theorem proved : Rows.FnMatchesAllWildcardsAcceptExactlyTheirLengthSaid := over
#print axioms proved
end Go.Proofs.Qxb6602860a.fnMatchesAllWildcardsAcceptExactlyTheirLength
