/-
  'Rows.FnSeesIsOwnOrEndedBeforeViewSaid', PROVED: the walk over the contracts of zzViewPremise, ZZnewReadViewFew (Qxb6603640aView) and ZZsees (Qxb6603640aSees), the plain law, then the row's step.
-/
import Derived.Test.Qxb6603640aView
import Derived.ProofKit
import Derived.OpenShut
import Derived.ChangeOld
import Derived.Below
namespace Go.Proofs.Qxb6603640a.fnSeesIsOwnOrEndedBeforeView
open Go.ChangeShapes Go.WideShapes Go.ChangeAt Go.RowKit

theorem own : ownKnob Try.prog.godebug = none := by kernel_rfl
theorem laidOut : laidOutB Try.prog = true := by kernel_rfl

theorem among_zero (F : Nat → Int) (t : Int) : among F 0 t = false := among_no fun _ h => by omega
theorem among_hit {F : Nat → Int} {k : Nat} {t : Int} (h : F k = t) : among F (k + 1) t = true := among_yes (Nat.lt_succ_self k) h
theorem among_miss {F : Nat → Int} {k : Nat} {t : Int} (h : F k ≠ t) : among F (k + 1) t = among F k t := by
  unfold among
  rw [decide_eq_decide]
  constructor
  · rintro ⟨j, h1, h2⟩
    by_cases e : j = k
    · subst e; exact absurd h2 h
    · exact ⟨j, by omega, h2⟩
  · rintro ⟨j, h1, h2⟩
    exact ⟨j, by omega, h2⟩

/-- THE PLAIN LAW. -/
theorem plain {cr mi ne : Int} {F : Nat → Int} {n : Nat} (P : Prem cr mi ne F n) {t : Int} (hc : t ≠ cr) : after cr mi ne F n t = (decide (t < ne) && !(among F n t)) := by
  have hle := P.le
  unfold after
  by_cases h1 : t < mi
  · have hno : among F n t = false := among_no fun k hk e => by
      rcases (P.each k hk).2 with h | h
      · exact hc (by rw [← e]; exact h)
      · omega
    rw [if_pos ⟨h1, hc⟩, hno, decide_eq_true (by omega)]
    rfl
  · rw [if_neg (fun h => h1 h.1)]
    by_cases h2 : ne ≤ t
    · rw [if_pos h2, decide_eq_false (by omega)]
      rfl
    · rw [if_neg h2, decide_eq_true (by omega)]
      rfl

set_option maxHeartbeats 1000000 in
theorem walk0 (cr mi ne f0 f1 f2 f3 f4 f5 f6 f7 : Int) (n : Nat) (t : Int) (w : World) (h1 : 1 ≤ n) (h8 : n ≤ 8) :
    Calls Try.prog 5 #[.int .u64 cr, .int .u64 mi, .int .u64 ne, .agg #[.int .u64 f0, .int .u64 f1, .int .u64 f2, .int .u64 f3, .int .u64 f4, .int .u64 f5, .int .u64 f6, .int .u64 f7], .int .i64 n, .int .u64 t] w
      fun e w' => e = .returned (.bool true) ∧ Below w.heap.size w w' := by
  go_enter Try.func5, Try.ntmps5
  go_wp2_with fail
  refine (prem_any cr mi ne f0 f1 f2 f3 f4 f5 f6 f7 n _ h1 h8).mono ?_
  rintro e w1 ⟨⟨r, rfl, hr⟩, hb1⟩
  obtain ⟨F, hF⟩ : ∃ F, F8 f0 f1 f2 f3 f4 f5 f6 f7 = F := ⟨_, rfl⟩
  have HF : Hid (F8 f0 f1 f2 f3 f4 f5 f6 f7 = F) := hF
  rw [hF] at hr
  have hsz : w.heap.size < w1.heap.size := by have := hb1.size; simp at this; omega
  have HC : Hid (∀ j, j < 8 → w1.cell? ⟨w.heap.size, j, none⟩ = some (.int .u64 (F j))) := by
    intro j hj
    rw [hb1.cell (p := ⟨w.heap.size, j, none⟩) (by simp)]
    have := f8_cells (w := w.alloc (.cells #[.int .u64 f0, .int .u64 f1, .int .u64 f2, .int .u64 f3, .int .u64 f4, .int .u64 f5, .int .u64 f6, .int .u64 f7] 29)) (b := w.heap.size) (off := 0) (f0 := f0) (f1 := f1) (f2 := f2) (f3 := f3) (f4 := f4) (f5 := f5) (f6 := f6) (f7 := f7) (by simp) (by simp) (by simp) (by simp) (by simp) (by simp) (by simp) (by simp) j hj
    rw [Nat.zero_add, hF] at this
    exact this
  have hB1 : Below w.heap.size w w1 := ((Below.refl _ _).alloc (Nat.le_refl _) _).trans (hb1.mono (by simp))
  clear hF hb1
  cases r with
  | false =>
    clear hr
    go_wp2
    go_ret
    exact ⟨rfl, hB1⟩
  | true =>
    have HP : Hid (Prem cr mi ne F n) := hr rfl
    clear hr
    have e0 : w1.cell? ⟨w.heap.size, 0, none⟩ = some (.int .u64 f0) := by have := HC.out 0 (by omega); rw [← HF.out] at this; exact this
    have e1 : w1.cell? ⟨w.heap.size, 1, none⟩ = some (.int .u64 f1) := by have := HC.out 1 (by omega); rw [← HF.out] at this; exact this
    have e2 : w1.cell? ⟨w.heap.size, 2, none⟩ = some (.int .u64 f2) := by have := HC.out 2 (by omega); rw [← HF.out] at this; exact this
    have e3 : w1.cell? ⟨w.heap.size, 3, none⟩ = some (.int .u64 f3) := by have := HC.out 3 (by omega); rw [← HF.out] at this; exact this
    have e4 : w1.cell? ⟨w.heap.size, 4, none⟩ = some (.int .u64 f4) := by have := HC.out 4 (by omega); rw [← HF.out] at this; exact this
    have e5 : w1.cell? ⟨w.heap.size, 5, none⟩ = some (.int .u64 f5) := by have := HC.out 5 (by omega); rw [← HF.out] at this; exact this
    have e6 : w1.cell? ⟨w.heap.size, 6, none⟩ = some (.int .u64 f6) := by have := HC.out 6 (by omega); rw [← HF.out] at this; exact this
    have e7 : w1.cell? ⟨w.heap.size, 7, none⟩ = some (.int .u64 f7) := by have := HC.out 7 (by omega); rw [← HF.out] at this; exact this
    go_wp2_with fail
    refine (new_any cr mi ne f0 f1 f2 f3 f4 f5 f6 f7 n w1).mono ?_
    rintro e w2 ⟨g, rfl, hg, hg1, hv, hb2⟩
    have hB2 : Below w.heap.size w w2 := hB1.trans (hb2.mono hB1.size)
    have HC2 : Hid (∀ j, j < 8 → w2.cell? ⟨w.heap.size, j, none⟩ = some (.int .u64 (F j))) := fun j hj => by
      rw [hb2.cell (p := ⟨w.heap.size, j, none⟩) hsz]; exact HC.out j hj
    have HV : Hid (View w2 g cr mi ne f0 f1 f2 f3 f4 f5 f6 f7 n) := hv
    clear hv e0 e1 e2 e3 e4 e5 e6 e7 HC hb2 hB1
    go_wp2
    go_loop [14, 15] (fun c i => ∃ k : Nat, k ≤ n ∧ i = .int .i64 k ∧ c = .bool (among F k t)) (fun _ i => n - (intOf i).toNat)
    case atStart => exact ⟨0, Nat.zero_le _, rfl, by rw [among_zero]⟩
    case round =>
      obtain ⟨k, hk, rfl, rfl⟩ := hrel
      by_cases hkl : k < n
      · have x1 := HC2.out k (by omega)
        by_cases hx : F k = t
        · have HA : Hid (among F (k + 1) t = true) := among_hit hx
          rw [hx] at x1
          clear hx
          go_wp2
          go_round
          case rel => exact ⟨k + 1, by omega, by go_num, by rw [HA.out]⟩
          case measure => simp [intOf]; omega
        · have HA : Hid (among F (k + 1) t = among F k t) := among_miss hx
          have hne : (F k == t) = false := by simpa using hx
          go_wp2
          go_round
          case rel => exact ⟨k + 1, by omega, by go_num, by rw [HA.out]⟩
          case measure => simp [intOf]; omega
      · obtain rfl : k = n := by omega
        have HR : Hid (Rises (F8 f0 f1 f2 f3 f4 f5 f6 f7) k) := by show Rises _ _; rw [HF.out]; exact HP.out.rises
        by_cases hc : t = cr
        · subst hc
          go_wp2_with fail
          refine (zzsees_any g t mi ne f0 f1 f2 f3 f4 f5 f6 f7 k t w2 h8 HR.out HV.out).mono ?_
          rintro e w3 ⟨rfl, hb3⟩
          rw [beq_self_eq_true, Bool.true_or]
          go_wp2
          go_ret
          exact ⟨rfl, hB2.trans (hb3.mono hB2.size)⟩
        · have hne : (t == cr) = false := by simpa using hc
          have HQ : Hid (after cr mi ne (F8 f0 f1 f2 f3 f4 f5 f6 f7) k t = (decide (t < ne) && !(among F k t))) := by show _ = _; rw [HF.out]; exact plain HP.out hc
          by_cases hlt : t < ne
          · go_wp2_with fail
            refine (zzsees_any g cr mi ne f0 f1 f2 f3 f4 f5 f6 f7 k t w2 h8 HR.out HV.out).mono ?_
            rintro e w3 ⟨rfl, hb3⟩
            rw [hne, Bool.false_or, HQ.out, decide_eq_true hlt, Bool.true_and]
            go_wp2
            go_ret
            exact ⟨by simp, hB2.trans (hb3.mono hB2.size)⟩
          · go_wp2_with fail
            refine (zzsees_any g cr mi ne f0 f1 f2 f3 f4 f5 f6 f7 k t w2 h8 HR.out HV.out).mono ?_
            rintro e w3 ⟨rfl, hb3⟩
            rw [hne, Bool.false_or, HQ.out, decide_eq_false (show ¬ t < ne by omega), Bool.false_and]
            go_wp2
            go_ret
            exact ⟨rfl, hB2.trans (hb3.mono hB2.size)⟩

set_option maxHeartbeats 400000 in
theorem walk (cr mi ne f0 f1 f2 f3 f4 f5 f6 f7 a t : Int) (w : World) :
    Calls Try.prog 5 #[.int .u64 cr, .int .u64 mi, .int .u64 ne, .agg #[.int .u64 f0, .int .u64 f1, .int .u64 f2, .int .u64 f3, .int .u64 f4, .int .u64 f5, .int .u64 f6, .int .u64 f7], .int .i64 a, .int .u64 t] w
      fun e w' => e = .returned (.bool true) ∧ Below w.heap.size w w' := by
  by_cases h1 : a < 1
  · go_enter Try.func5, Try.ntmps5
    go_wp2
    go_ret
    exact ⟨rfl, (Below.refl _ _).alloc (Nat.le_refl _) _⟩
  · by_cases h2 : 8 < a
    · go_enter Try.func5, Try.ntmps5
      go_wp2
      go_ret
      exact ⟨rfl, (Below.refl _ _).alloc (Nat.le_refl _) _⟩
    · obtain ⟨n, rfl⟩ := Int.eq_ofNat_of_zero_le (show 0 ≤ a by omega)
      exact walk0 cr mi ne f0 f1 f2 f3 f4 f5 f6 f7 n t w (by omega) (by omega)

theorem cells29 : Try.prog.cellsOf 29 = 8 := by kernel_rfl
theorem cells28 : Try.prog.cellsOf 28 = 1 := by kernel_rfl

/-- The array of eight that came in, opened. -/
theorem open_few {H : Type} {enc : TypeId × Value → H} {w : World} {r : Reach} {b0 : Nat} {v : Value} {d : DataW H} {p : List MemPlace} (hv : Value.okWide Try.prog w r b0 29 v)
    (h : DataW.Trod enc Try.prog w 0 (fun _ => true) true 29 v d p) :
    ∃ f0 f1 f2 f3 f4 f5 f6 f7 : Int, v = .agg #[.int .u64 f0, .int .u64 f1, .int .u64 f2, .int .u64 f3, .int .u64 f4, .int .u64 f5, .int .u64 f6, .int .u64 f7] := by
  obtain ⟨cs, rfl, hsz⟩ : ∃ cs : Array Value, v = .agg cs ∧ cs.size = 8 := by
    simp only [Value.okWide, Try.underlying29] at hv
    obtain ⟨cs, h1, h2, _⟩ := hv
    exact ⟨cs, h1, h2.trans cells29⟩
  obtain ⟨fuel, hf⟩ := h
  obtain ⟨xs, m, _, _, _, hl, he⟩ := DataW.trod_array Try.underlying29 hf
  obtain ⟨l⟩ := cs
  match l, hsz with
  | [c0, c1, c2, c3, c4, c5, c6, c7], _ =>
    match xs, hl with
    | [x0, x1, x2, x3, x4, x5, x6, x7], _ =>
      have e0 : DataW.trod enc Try.prog w 0 (fun _ => true) true m 28 [c0] = some x0 := by simpa [cells28, Value.cells] using he 0 (by omega)
      have e1 : DataW.trod enc Try.prog w 0 (fun _ => true) true m 28 [c1] = some x1 := by simpa [cells28, Value.cells] using he 1 (by omega)
      have e2 : DataW.trod enc Try.prog w 0 (fun _ => true) true m 28 [c2] = some x2 := by simpa [cells28, Value.cells] using he 2 (by omega)
      have e3 : DataW.trod enc Try.prog w 0 (fun _ => true) true m 28 [c3] = some x3 := by simpa [cells28, Value.cells] using he 3 (by omega)
      have e4 : DataW.trod enc Try.prog w 0 (fun _ => true) true m 28 [c4] = some x4 := by simpa [cells28, Value.cells] using he 4 (by omega)
      have e5 : DataW.trod enc Try.prog w 0 (fun _ => true) true m 28 [c5] = some x5 := by simpa [cells28, Value.cells] using he 5 (by omega)
      have e6 : DataW.trod enc Try.prog w 0 (fun _ => true) true m 28 [c6] = some x6 := by simpa [cells28, Value.cells] using he 6 (by omega)
      have e7 : DataW.trod enc Try.prog w 0 (fun _ => true) true m 28 [c7] = some x7 := by simpa [cells28, Value.cells] using he 7 (by omega)
      obtain ⟨f0, g0, _⟩ := DataW.trod_int Try.underlying28 e0
      obtain ⟨f1, g1, _⟩ := DataW.trod_int Try.underlying28 e1
      obtain ⟨f2, g2, _⟩ := DataW.trod_int Try.underlying28 e2
      obtain ⟨f3, g3, _⟩ := DataW.trod_int Try.underlying28 e3
      obtain ⟨f4, g4, _⟩ := DataW.trod_int Try.underlying28 e4
      obtain ⟨f5, g5, _⟩ := DataW.trod_int Try.underlying28 e5
      obtain ⟨f6, g6, _⟩ := DataW.trod_int Try.underlying28 e6
      obtain ⟨f7, g7, _⟩ := DataW.trod_int Try.underlying28 e7
      simp only [List.cons.injEq, and_true] at g0 g1 g2 g3 g4 g5 g6 g7
      exact ⟨f0, f1, f2, f3, f4, f5, f6, f7, by rw [g0, g1, g2, g3, g4, g5, g6, g7]⟩

/-! ### THE ROW's STEP -/
set_option maxRecDepth 100000 in
theorem lifted (os : Os) (started : os.Started) (H : Type) (enc : TypeId × Value → H) :
    ReturnsInHanded {} Try.checked os 5 .any (Rows.fnSeesIsOwnOrEndedBeforeViewSpec.pre6 enc Try.prog Try.f5 Rows.fnSeesIsOwnOrEndedBeforeViewRow.domain false) (Rows.fnSeesIsOwnOrEndedBeforeViewSpec.post enc Try.prog Try.f5 false true false false) := by
  refine returnsInHanded_of_change (C := Try.checked) own started (by kernel_rfl) Try.func5
    (ChangeSpec.witness6 (enc := enc) (C := Try.checked) false ⟨#[], #[.int .u64 0, .int .u64 0, .int .u64 0, .agg #[.int .u64 0, .int .u64 0, .int .u64 0, .int .u64 0, .int .u64 0, .int .u64 0, .int .u64 0, .int .u64 0], .int .i64 0, .int .u64 0], []⟩ 8 (by kernel_rfl) (by kernel_rfl) (by kernel_rfl) (by kernel_rfl)) ?_
  intro W base args ds gs before hval0 hW hcnd _
  have hval : ∀ (j : Nat) t v, Try.f5.params[j]? = some t → args[j]? = some v → Value.okWide Try.prog W .any base t v := hval0
  have hW' := hW
  obtain ⟨p, q, hA0, hV, rfl, hfz, hnd⟩ := hW
  have hA : DataW.TrodAll enc Try.prog W 0 (fun _ => true) true Try.f5.params.toList args.toList ds p := hA0
  rw [Try.params5] at hA hval
  obtain ⟨v0, vs0, d0, ds0, p0, q0, hargs, rfl, rfl, h0, r0⟩ := trodAll_cons hA
  obtain ⟨v1, vs1, d1, ds1, p1, q1, rfl, rfl, rfl, h1, r1⟩ := trodAll_cons r0
  obtain ⟨v2, vs2, d2, ds2, p2, q2, rfl, rfl, rfl, h2, r2⟩ := trodAll_cons r1
  obtain ⟨v3, vs3, d3, ds3, p3, q3, rfl, rfl, rfl, h3, r3⟩ := trodAll_cons r2
  obtain ⟨v4, vs4, d4, ds4, p4, q4, rfl, rfl, rfl, h4, r4⟩ := trodAll_cons r3
  obtain ⟨v5, vs5, d5, ds5, p5, q5, rfl, rfl, rfl, h5, r5⟩ := trodAll_cons r4
  obtain ⟨rfl, rfl, rfl⟩ := trodAll_nil r5
  obtain rfl : args = #[v0, v1, v2, v3, v4, v5] := by cases args; simp_all
  obtain ⟨rfl, rfl⟩ := trodVars_none hV
  obtain ⟨a0, rfl, rfl, rfl, w0⟩ := open_int Try.underlying28 (hval 0 28 v0 rfl rfl) h0
  obtain ⟨a1, rfl, rfl, rfl, w1⟩ := open_int Try.underlying28 (hval 1 28 v1 rfl rfl) h1
  obtain ⟨a2, rfl, rfl, rfl, w2⟩ := open_int Try.underlying28 (hval 2 28 v2 rfl rfl) h2
  obtain ⟨f0, f1, f2, f3, f4, f5, f6, f7, rfl⟩ := open_few (hval 3 29 v3 rfl rfl) h3
  obtain ⟨a4, rfl, rfl, rfl, w4⟩ := open_int Try.underlying3 (hval 4 3 v4 rfl rfl) h4
  obtain ⟨a5, rfl, rfl, rfl, w5⟩ := open_int Try.underlying28 (hval 5 28 v5 rfl rfl) h5
  have lt3 : ∀ x ∈ p3, x.block < W.heap.size := by obtain ⟨m, hm⟩ := h3; exact DataW.trod_lt m _ _ _ hm
  clear hA0 hval0
  refine (walk a0 a1 a2 f0 f1 f2 f3 f4 f5 f6 f7 a4 a5 W).mono fun e W' ⟨he, bel⟩ => ?_
  subst he
  exact ⟨_, rfl, _, _, _, [], _, [], hW', trodAll_mk1 (shut_bool Try.underlying4 _), (trodAll_cons_mk (shut_int Try.underlying28 w0) (trodAll_cons_mk (shut_int Try.underlying28 w1) (trodAll_cons_mk (shut_int Try.underlying28 w2) (trodAll_cons_mk (Below.trod laidOut (by kernel_rfl) (of_decide_eq_true (by kernel_rfl)) h3 bel lt3) (trodAll_cons_mk (shut_int Try.underlying3 w4) (trodAll_cons_mk (shut_int Try.underlying28 w5) trodAll_mk0)))))), rfl, bel.frame _, fun h => by cases h⟩

theorem over : Rows.fnSeesIsOwnOrEndedBeforeViewRow.holds Try.pinned (OpenSpec.ofChange Rows.fnSeesIsOwnOrEndedBeforeViewSpec) :=
  OpenClaim.holds_of_wide 5 Try.f5 rfl rfl rfl rfl rfl rfl rfl ⟨rfl, rfl, rfl, rfl, rfl⟩ rfl rfl rfl rfl rfl (by kernel_rfl) Try.func5 (by kernel_rfl)
    (of_decide_eq_true (by kernel_rfl)) (by unfold Func.isWrapper; first | (rw [if_pos (by decide +kernel)]; kernel_rfl) | (rw [if_neg (by decide +kernel)]; exact ⟨rfl, rfl⟩))
    (fun os started H enc _ => lifted os started H enc)

/-- THE STATEMENT -/
theorem proved : Rows.FnSeesIsOwnOrEndedBeforeViewSaid := over
#print axioms proved
end Go.Proofs.Qxb6603640a.fnSeesIsOwnOrEndedBeforeView
