/-
  'Rows.FnLaterEndIsNilTopMaxSaid', PROVED: the walk over the contracts of zzCloneEnd, laterEnd, zzSameBytes and zzCompareBytes (Qxb6603640aEnds) and the plain order (Qxb6603640aOrder), then the row's step (the guide's frame).
-/
import Derived.Test.Qxb6603640aEnds
import Derived.ProofKit
import Derived.OpenShut
import Derived.ShutString
import Derived.ChangeOld
import Derived.Below
namespace Go.Proofs.Qxb6603640a.fnLaterEndIsNilTopMax
open Go.ChangeShapes Go.WideShapes Go.ChangeAt Go.RowKit

theorem own : ownKnob Try.prog.godebug = none := by kernel_rfl
theorem laidOut : laidOutB Try.prog = true := by kernel_rfl
open Go.Op (bytesLess)

theorem b6 (aa : Option Addr) (n ca : Nat) (ab : Option Addr) (m cb : Nat) (w : World) (h : n + m ≤ 1048576) :
    Calls Try.prog 6 #[.slice aa n ca, .slice ab m cb] w fun e w' => e = .returned (.bool true) ∧ w = w' := by
  go_enter Try.func6, Try.ntmps6
  go_wp2
  go_ret
  exact ⟨rfl, rfl⟩

set_option maxHeartbeats 1000000 in
theorem walk0 (aa : Option Addr) (la : List UInt8) (ca : Nat) (ab : Option Addr) (lb : List UInt8) (cb : Nat) (w : World) (ha : Has w aa la) (hb : Has w ab lb) (h1 : la.length ≤ 524288) (h2 : lb.length ≤ 524288) :
    Calls Try.prog 3 #[.slice aa la.length ca, .slice ab lb.length cb] w fun e w' => e = .returned (.bool true) ∧ Below w.heap.size w w' := by
  have q : ∀ (w : World) (a : Option Addr) (n c n' c' : Nat), (binOp .eql 22 (.slice a n c) (.slice none n' c')).run Try.prog w = .ok (.bool a.isNone) w := fun w a n c n' c' => Lib.run_eql_slice_nil w 22 5 a n c n' c' Try.underlying22
  have HA : Hid (Has w aa la) := ha
  have HB : Hid (Has w ab lb) := hb
  clear ha hb
  go_enter Try.func3, Try.ntmps3
  go_wp2_with (go_at_call 6; refine (b6 _ _ _ _ _ _ _ (by omega)).mono ?_; rintro e w' ⟨rfl, rfl⟩)
  refine (clone_end aa la ca w (by omega) HA.out).mono ?_
  rintro e w1 ⟨va, rfl, ea, hb1⟩
  have EA : Hid (End w1 va (endOf aa la)) := ea
  clear ea
  go_wp2_with fail
  refine (clone_end ab lb cb w1 (by omega) (HB.out.later hb1)).mono ?_
  rintro e w2 ⟨vb, rfl, eb, hb2⟩
  have EA2 : Hid (End w2 va (endOf aa la)) := EA.out.later hb2
  have EB : Hid (End w2 vb (endOf ab lb)) := eb
  have hB : Below w.heap.size w w2 := hb1.trans (hb2.mono hb1.size)
  clear eb EA hb1 hb2
  go_wp2_with fail
  refine (zzlater_any va vb _ _ w2 EA2.out EB.out).mono ?_
  rintro e w' ⟨vo, rfl, eo, rfl⟩
  have EO : Hid (End w2 vo (later (endOf aa la) (endOf ab lb))) := eo
  clear eo
  cases aa with
  | none =>
    rcases EA2.out with ⟨-, rfl⟩ | ⟨_, _, _, hh, _⟩
    · rcases EO.out with ⟨-, rfl⟩ | ⟨_, _, _, hh, _⟩
      · go_wp2
        go_ret
        exact ⟨rfl, hB⟩
      · cases hh
    · cases hh
  | some xa =>
    rcases EA2.out with ⟨hh, _⟩ | ⟨x1, l1, c1, hh1, rfl, g1⟩
    · cases hh
    obtain rfl : la = l1 := by simpa [endOf] using hh1
    cases ab with
    | none =>
      rcases EB.out with ⟨-, rfl⟩ | ⟨_, _, _, hh, _⟩
      · rcases EO.out with ⟨-, rfl⟩ | ⟨_, _, _, hh, _⟩
        · go_wp2
          go_ret
          exact ⟨rfl, hB⟩
        · cases hh
      · cases hh
    | some xb =>
      rcases EB.out with ⟨hh, _⟩ | ⟨x2, l2, c2, hh2, rfl, g2⟩
      · cases hh
      obtain rfl : lb = l2 := by simpa [endOf] using hh2
      obtain ⟨m, hm, hm1, hm2, hm3⟩ := later_some la lb
      rcases EO.out with ⟨hh, _⟩ | ⟨x3, l3, c3, hh3, rfl, g3⟩
      · rw [show later (endOf (some xa) la) (endOf (some xb) lb) = some m from hm] at hh; cases hh
      obtain rfl : m = l3 := by rw [show later (endOf (some xa) la) (endOf (some xb) lb) = some m from hm] at hh3; simpa using hh3
      have HL : Hid (bytesLess m la = false) := hm2
      have HL2 : Hid (bytesLess m lb = false) := hm3
      have HM : Hid (m = la ∨ m = lb) := hm1
      have G1 : Hid (Has w2 (some x1) la) := g1
      have G2 : Hid (Has w2 (some x2) lb) := g2
      have G3 : Hid (Has w2 (some x3) m) := g3
      have hml : m.length ≤ 524288 := by rcases hm1 with rfl | rfl <;> omega
      clear g1 g2 g3 hm hm1 hm2 hm3 hh1 hh2 hh3 EA2 EB EO
      go_wp2_with fail
      refine (same_any (some x3) m c3 (some x1) la c1 w2 G3.out G1.out (by omega)).mono ?_
      rintro e w' ⟨rfl, nq, rfl⟩
      by_cases hma : m = la
      · rw [decide_eq_true hma]
        have HMA : Hid (m = la) := hma
        clear hma
        go_wp2_with fail
        refine (cmp_any (some x3) m c3 (some x1) la c1 _ (G3.out.drewN _) (G1.out.drewN _) (by omega) (by omega)).mono ?_
        rintro e w' ⟨⟨r, rfl, hr⟩, nq2, rfl⟩
        have hr0 : 0 ≤ r := hr.2 HL.out
        clear hr
        go_wp2_with fail
        refine (cmp_any (some x3) m c3 (some x2) lb c2 _ (G3.out.drewN _) (G2.out.drewN _) (by omega) (by omega)).mono ?_
        rintro e w' ⟨⟨r2, rfl, hr2⟩, nq3, rfl⟩
        have hr20 : 0 ≤ r2 := hr2.2 HL2.out
        clear hr2
        go_wp2
        go_ret
        exact ⟨rfl, by first | exact below_drewN hB _ | exact below_drewN (below_drewN hB _) _⟩
      · rw [decide_eq_false hma]
        have HMB : Hid (m = lb) := HM.out.resolve_left hma
        clear hma
        go_wp2_with fail
        refine (same_any (some x3) m c3 (some x2) lb c2 _ (G3.out.drewN _) (G2.out.drewN _) (by omega)).mono ?_
        rintro e w' ⟨rfl, nq4, rfl⟩
        rw [decide_eq_true HMB.out]
        go_wp2_with fail
        refine (cmp_any (some x3) m c3 (some x1) la c1 _ (G3.out.drewN _) (G1.out.drewN _) (by omega) (by omega)).mono ?_
        rintro e w' ⟨⟨r, rfl, hr⟩, nq2, rfl⟩
        have hr0 : 0 ≤ r := hr.2 HL.out
        clear hr
        go_wp2_with fail
        refine (cmp_any (some x3) m c3 (some x2) lb c2 _ (G3.out.drewN _) (G2.out.drewN _) (by omega) (by omega)).mono ?_
        rintro e w' ⟨⟨r2, rfl, hr2⟩, nq3, rfl⟩
        have hr20 : 0 ≤ r2 := hr2.2 HL2.out
        clear hr2
        go_wp2
        go_ret
        exact ⟨rfl, by first | exact below_drewN hB _ | exact below_drewN (below_drewN hB _) _⟩

set_option maxHeartbeats 400000 in
theorem walk (a0 : Option Addr) (len0 cap0 : Nat) (z0 : List Int) (a1 : Option Addr) (len1 cap1 : Nat) (z1 : List Int) (w : World) (w0 : IsRow .u8 w a0 len0 cap0 z0) (w1 : IsRow .u8 w a1 len1 cap1 z1) :
    Calls Try.prog 3 #[.slice a0 len0 cap0, .slice a1 len1 cap1] w fun e w' => e = .returned (.bool true) ∧ Below w.heap.size w w' := by
  have m0 : len0 ≤ maxLen := by rcases w0 with ⟨_, h, _⟩ | ⟨_, _, h1, h2, _⟩ <;> omega
  have m1 : len1 ≤ maxLen := by rcases w1 with ⟨_, h, _⟩ | ⟨_, _, h1, h2, _⟩ <;> omega
  obtain ⟨la, rfl, ha⟩ := has_of w0
  obtain ⟨lb, rfl, hb⟩ := has_of w1
  by_cases hs : la.length ≤ 524288 ∧ lb.length ≤ 524288
  · exact walk0 a0 la cap0 a1 lb cap1 w ha hb hs.1 hs.2
  · unfold maxLen at m0 m1
    clear w0 w1 ha hb
    obtain ⟨n, hn⟩ : ∃ n, la.length = n := ⟨_, rfl⟩
    obtain ⟨m, hm⟩ : ∃ m, lb.length = m := ⟨_, rfl⟩
    rw [hn] at hs m0 ⊢
    rw [hm] at hs m1 ⊢
    clear hn hm
    by_cases h1 : n ≤ 524288
    · have h2 : 524288 < m := by omega
      clear hs
      go_enter Try.func3, Try.ntmps3
      go_wp2
      all_goals
        go_ret
        exact ⟨rfl, Below.refl _ _⟩
    · clear hs
      go_enter Try.func3, Try.ntmps3
      go_wp2
      all_goals
        go_ret
        exact ⟨rfl, Below.refl _ _⟩
/-! ### THE ROW's STEP: WRITTEN OUT: LEAVE IT -/
set_option maxRecDepth 100000 in
theorem lifted (os : Os) (started : os.Started) (H : Type) (enc : TypeId × Value → H) :
    ReturnsInHanded {} Try.checked os 3 .any (Rows.fnLaterEndIsNilTopMaxSpec.pre6 enc Try.prog Try.f3 Rows.fnLaterEndIsNilTopMaxRow.domain false) (Rows.fnLaterEndIsNilTopMaxSpec.post enc Try.prog Try.f3 false true false false) := by
  refine returnsInHanded_of_change (C := Try.checked) own started (by kernel_rfl) Try.func3
    (ChangeSpec.witness6 (enc := enc) (C := Try.checked) false ⟨#[], #[.slice none 0 0, .slice none 0 0], []⟩ 8 (by kernel_rfl) (by kernel_rfl) (by kernel_rfl) (by kernel_rfl)) ?_
  intro W base args ds gs before hval0 hW hcnd _
  have hval : ∀ (j : Nat) t v, Try.f3.params[j]? = some t → args[j]? = some v → Value.okWide Try.prog W .any base t v := hval0
  have hW' := hW
  obtain ⟨p, q, hA0, hV, rfl, hfz, hnd⟩ := hW
  have hA : DataW.TrodAll enc Try.prog W 0 (fun _ => true) true Try.f3.params.toList args.toList ds p := hA0
  rw [Try.params3] at hA hval
  obtain ⟨v0, vs0, d0, ds0, p0, q0, hargs, rfl, rfl, h0, r0⟩ := trodAll_cons hA
  obtain ⟨v1, vs1, d1, ds1, p1, q1, rfl, rfl, rfl, h1, r1⟩ := trodAll_cons r0
  obtain ⟨rfl, rfl, rfl⟩ := trodAll_nil r1
  obtain rfl : args = #[v0, v1] := by cases args; simp_all
  obtain ⟨rfl, rfl⟩ := trodVars_none hV
  obtain ⟨a0, len0, cap0, rfl⟩ := okWide_slice Try.underlying22 (hval 0 22 v0 rfl rfl)
  have k0 := h0
  have lt0 : ∀ x ∈ p0, x.block < W.heap.size := by obtain ⟨m, hm⟩ := k0; exact DataW.trod_lt m _ _ _ hm
  obtain ⟨z0, w0⟩ : ∃ zs, IsRow .u8 W a0 len0 cap0 zs := by
    obtain ⟨fuel, hf⟩ := h0
    rcases open_ints Try.underlying22 Try.underlying5 (by kernel_rfl) hf with ⟨hcs, _⟩ | ⟨x, l, c, zs, hcs, _, hl, hm, hz, _, hcell, hwz⟩
    · simp [Value.cells] at hcs
      obtain ⟨rfl, rfl, rfl⟩ := hcs
      exact ⟨[], .inl ⟨rfl, rfl, rfl, rfl⟩⟩
    · simp [Value.cells] at hcs
      obtain ⟨rfl, rfl, rfl⟩ := hcs
      exact ⟨zs, .inr ⟨_, rfl, hl, hm, by simpa using hz, hcell, hwz⟩⟩
  obtain ⟨a1, len1, cap1, rfl⟩ := okWide_slice Try.underlying22 (hval 1 22 v1 rfl rfl)
  have k1 := h1
  have lt1 : ∀ x ∈ p1, x.block < W.heap.size := by obtain ⟨m, hm⟩ := k1; exact DataW.trod_lt m _ _ _ hm
  obtain ⟨z1, w1⟩ : ∃ zs, IsRow .u8 W a1 len1 cap1 zs := by
    obtain ⟨fuel, hf⟩ := h1
    rcases open_ints Try.underlying22 Try.underlying5 (by kernel_rfl) hf with ⟨hcs, _⟩ | ⟨x, l, c, zs, hcs, _, hl, hm, hz, _, hcell, hwz⟩
    · simp [Value.cells] at hcs
      obtain ⟨rfl, rfl, rfl⟩ := hcs
      exact ⟨[], .inl ⟨rfl, rfl, rfl, rfl⟩⟩
    · simp [Value.cells] at hcs
      obtain ⟨rfl, rfl, rfl⟩ := hcs
      exact ⟨zs, .inr ⟨_, rfl, hl, hm, by simpa using hz, hcell, hwz⟩⟩
  clear hA0 hval0
  refine (walk a0 len0 cap0 z0 a1 len1 cap1 z1 W w0 w1).mono fun e W' ⟨he, bel⟩ => ?_
  subst he
  exact ⟨_, rfl, _, _, _, [], _, [], hW', trodAll_mk1 (shut_bool Try.underlying4 _), (trodAll_cons_mk (Below.trod laidOut (by kernel_rfl) (of_decide_eq_true (by kernel_rfl)) k0 bel lt0) (trodAll_cons_mk (Below.trod laidOut (by kernel_rfl) (of_decide_eq_true (by kernel_rfl)) k1 bel lt1) trodAll_mk0)), rfl, bel.frame _, fun h => by cases h⟩

theorem over : Rows.fnLaterEndIsNilTopMaxRow.holds Try.pinned (OpenSpec.ofChange Rows.fnLaterEndIsNilTopMaxSpec) :=
  OpenClaim.holds_of_wide 3 Try.f3 rfl rfl rfl rfl rfl rfl rfl ⟨rfl, rfl, rfl, rfl, rfl⟩ rfl rfl rfl rfl rfl (by kernel_rfl) Try.func3 (by kernel_rfl)
    (of_decide_eq_true (by kernel_rfl)) (by unfold Func.isWrapper; first | (rw [if_pos (by decide +kernel)]; kernel_rfl) | (rw [if_neg (by decide +kernel)]; exact ⟨rfl, rfl⟩))
    (fun os started H enc _ => lifted os started H enc)

/-- ████ THE STATEMENT ████ -/
theorem proved : Rows.FnLaterEndIsNilTopMaxSaid := over
#print axioms proved
end Go.Proofs.Qxb6603640a.fnLaterEndIsNilTopMax
