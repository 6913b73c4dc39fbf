/-
  'Rows.FnAppendStringSplitsAtConcatenationSaid', PROVED: the walk over appendString's contract (Qxb6602860aApp), then the row's step (the guide's frame, its end by 'Below').
-/
import Derived.Test.Qxb6602860aApp
import Derived.Deep.QuietTactic
import Derived.BigQuiet
import Derived.ProofKit
import Derived.OpenShut
import Derived.ShutString
import Derived.ChangeOld
import Derived.Below
namespace Go.Proofs.Qxb6602860a.fnAppendStringSplitsAtConcatenation
open Go.ChangeShapes Go.WideShapes Go.ChangeAt Go.RowKit
open Go.ChangeMaps (open_string shut_string)

theorem own : ownKnob Try.prog.godebug = none := by kernel_rfl

/-- The spelling of a concatenation, place by place. -/
theorem quoted_at (a b : List UInt8) (m1 m2 : Nat) (h1 : (quoted a).length = m1 + 2) (h2 : (quoted b).length = m2 + 2) :
    (quoted (a ++ b)).length = m1 + m2 + 2 ∧ (∀ j (h : j < (quoted (a ++ b)).length), (quoted (a ++ b))[j] = if j < m1 + 1 then (quoted a).getD j 0 else (quoted b).getD (j - (m1 + 1) + 1) 0) := by
  have hl : (quoted (a ++ b)).length = m1 + m2 + 2 := by
    rw [quoted_append]; simp only [List.length_append, List.length_dropLast, List.length_tail]; omega
  refine ⟨hl, fun j h => ?_⟩
  have e : ∀ (l : List UInt8) (h : j < l.length), l = (quoted a).dropLast ++ (quoted b).tail → l[j] = if j < m1 + 1 then (quoted a).getD j 0 else (quoted b).getD (j - (m1 + 1) + 1) 0 := by
    intro l h el
    subst el
    have hd : ((quoted a).dropLast).length = m1 + 1 := by rw [List.length_dropLast]; omega
    rw [List.getElem_append]
    split
    · rename_i hj
      rw [if_pos (by omega), List.getElem_dropLast]
      simp [List.getD_eq_getElem?_getD, List.getElem?_eq_getElem (show j < (quoted a).length by omega)]
    · rename_i hj
      rw [if_neg (by omega)]
      have hj2 : j - (m1 + 1) + 1 < (quoted b).length := by
        have : j < ((quoted a).dropLast ++ (quoted b).tail).length := h
        simp only [List.length_append, List.length_dropLast, List.length_tail] at this; omega
      simp only [hd, List.getElem_tail]
      simp [List.getD_eq_getElem?_getD, List.getElem?_eq_getElem hj2]
  exact e _ h (quoted_append a b)

/-- The spelling of s: its length, and its bytes as numbers. -/
def Spell (s : ByteArray) (m : Nat) (f : Nat → Int) : Prop := (quoted s.data.toList).length = m + 2 ∧ ∀ j, ((((quoted s.data.toList).getD j 0).toNat : Nat) : Int) = f j

theorem spell_is (s : ByteArray) (hs : s.size ≤ 1048576) : ∃ m f, Spell s m f ∧ m ≤ 6291456 := by
  refine ⟨(esc s.data.toList).length, _, ⟨quoted_len _, fun _ => rfl⟩, ?_⟩
  have := (esc_len s.data.toList).2
  have hl : s.data.toList.length = s.size := by rw [Array.length_toList]; rfl
  omega

theorem zz_one (s : ByteArray) (m : Nat) (f : Nat → Int) (h : Spell s m f) (w : World) (hs : s.size ≤ 1048576) :
    Calls Try.prog 11 #[.slice none 0 0, .string s] w fun e w' => ∃ g cap, e = .returned (.slice (some ⟨g, 0, none⟩) (m + 2) cap) ∧ Below w.heap.size w w' ∧ g < w'.heap.size ∧
      ∀ j, j < m + 2 → w'.cell? ⟨g, j, none⟩ = some (.int .u8 (f j)) :=
  (zz_nil s w hs).mono fun e w' ⟨v, he, hb⟩ => by
    obtain ⟨g, cap, hv, _, hg, _, _, hc⟩ := hb.form (by rw [quoted_len]; omega)
    rw [h.1] at hv
    refine ⟨g, cap, by rw [he, hv], hb.2.1, hg, fun j hj => ?_⟩
    have hj' : j < (quoted s.data.toList).length := by rw [h.1]; exact hj
    rw [hc j hj', ← h.2 j, List.getD_eq_getElem?_getD, List.getElem?_eq_getElem hj']
    rfl

theorem zz_two (s1 s2 : ByteArray) (m1 m2 : Nat) (f1 f2 : Nat → Int) (h1 : Spell s1 m1 f1) (h2 : Spell s2 m2 f2) (w : World) (hs : s1.size + s2.size ≤ 1048576) :
    Calls Try.prog 11 #[.slice none 0 0, .string (s1 ++ s2)] w fun e w' => ∃ g cap, e = .returned (.slice (some ⟨g, 0, none⟩) (m1 + m2 + 2) cap) ∧ Below w.heap.size w w' ∧ g < w'.heap.size ∧
      (∀ j, j < m1 + 1 → w'.cell? ⟨g, j, none⟩ = some (.int .u8 (f1 j))) ∧ (∀ t, t < m2 + 1 → w'.cell? ⟨g, m1 + 1 + t, none⟩ = some (.int .u8 (f2 (t + 1)))) := by
  have hd : (s1 ++ s2).data.toList = s1.data.toList ++ s2.data.toList := by simp
  obtain ⟨e0, hq⟩ := quoted_at _ _ m1 m2 h1.1 h2.1
  rw [← hd] at e0 hq
  refine (zz_nil (s1 ++ s2) w (by rw [ByteArray.size_append]; exact hs)).mono fun e w' ⟨v, he, hb⟩ => ?_
  obtain ⟨g, cap, hv, _, hg, _, _, hc⟩ := hb.form (by rw [quoted_len]; omega)
  rw [e0] at hv
  refine ⟨g, cap, by rw [he, hv], hb.2.1, hg, fun j hj => ?_, fun t ht => ?_⟩
  · rw [hc j (by omega), hq j (by omega), if_pos hj, h1.2 j]
  · rw [hc (m1 + 1 + t) (by omega), hq (m1 + 1 + t) (by omega), if_neg (by omega), ← h2.2 (t + 1)]
    have : m1 + 1 + t - (m1 + 1) + 1 = t + 1 := by omega
    rw [this]

theorem b13 (s1 s2 : ByteArray) (w : World) (h : s1.size + s2.size ≤ 1048576) :
    Calls Try.prog 13 #[.string s1, .string s2] w fun e w' => e = .returned (.bool true) ∧ w = w' := by
  go_enter Try.func13, Try.ntmps13
  go_wp2
  go_ret
  exact ⟨rfl, rfl⟩

set_option maxHeartbeats 1000000 in
theorem walk (s1 s2 : ByteArray) (h1 : s1.size ≤ maxLen) (h2 : s2.size ≤ maxLen) (w : World) :
    Calls Try.prog 4 #[.string s1, .string s2] w fun e w' => e = .returned (.bool true) ∧ Below w.heap.size w w' := by
  unfold maxLen at h1 h2
  by_cases hs : s1.size + s2.size ≤ 1048576
  · obtain ⟨m1, f1, S1, hm1⟩ := spell_is s1 (by omega)
    obtain ⟨m2, f2, S2, hm2⟩ := spell_is s2 (by omega)
    go_enter Try.func4, Try.ntmps4
    go_wp2_with (go_at_call 13; refine (b13 s1 s2 _ hs).mono ?_; rintro e w' ⟨rfl, rfl⟩)
    refine (zz_two s1 s2 m1 m2 f1 f2 S1 S2 _ hs).mono ?_
    rintro e wa ⟨ga, capa, rfl, hba, hga, ca1, ca2⟩
    go_wp2_with fail
    refine (zz_one s1 m1 f1 S1 _ (by omega)).mono ?_
    rintro e wb ⟨gb, capb, rfl, hbb, hgb, cb⟩
    go_wp2_with fail
    refine (zz_one s2 m2 f2 S2 _ (by omega)).mono ?_
    rintro e wc ⟨gc, capc, rfl, hbc, hgc, cc⟩
    have hB : Below w.heap.size w wc := (hba.trans (hbb.mono hba.size)).trans (hbc.mono (Nat.le_trans hba.size hbb.size))
    have da1 : ∀ j, j < m1 + 1 → wc.cell? ⟨ga, j, none⟩ = some (.int .u8 (f1 j)) := fun j hj => by
      rw [hbc.cell (p := ⟨ga, j, none⟩) (Nat.lt_of_lt_of_le hga hbb.size), hbb.cell (p := ⟨ga, j, none⟩) hga]; exact ca1 j hj
    have da2 : ∀ t, t < m2 + 1 → wc.cell? ⟨ga, m1 + 1 + t, none⟩ = some (.int .u8 (f2 (t + 1))) := fun t ht => by
      rw [hbc.cell (p := ⟨ga, m1 + 1 + t, none⟩) (Nat.lt_of_lt_of_le hga hbb.size), hbb.cell (p := ⟨ga, m1 + 1 + t, none⟩) hga]; exact ca2 t ht
    have db : ∀ j, j < m1 + 2 → wc.cell? ⟨gb, j, none⟩ = some (.int .u8 (f1 j)) := fun j hj => by
      rw [hbc.cell (p := ⟨gb, j, none⟩) hgb]; exact cb j hj
    clear ca1 ca2 cb hba hbb hbc hga hgb hgc
    have hne : ((m1 : Int) + (m2 : Int) + 2 != (m1 : Int) + 2 + ((m2 : Int) + 2) - 2) = false := by simp; omega
    go_wp2
    go_loopw [8, 9] (fun k i wr => ∃ j nq : Nat, j ≤ m1 + 1 ∧ k = .int .i64 j ∧ i = .int .i64 j ∧ wr = wc.drewN nq) (fun _ i _ => m1 + 1 - (intOf i).toNat)
    case atStart => exact ⟨0, 0, Nat.zero_le _, rfl, rfl, rfl⟩
    case round =>
      obtain ⟨j, nq, hj, rfl, rfl, rfl⟩ := hrel
      by_cases hlt : j < m1 + 1
      · have x1 := da1 j hlt
        have x2 := db j (by omega)
        clear da1 da2 db cc
        go_wp2
        go_quiet (fail)
        go_wp2
        go_roundw
        case rel => exact ⟨j + 1, _, by omega, by go_num, by go_num, rfl⟩
        case measure => simp [intOf]; omega
      · obtain rfl : j = m1 + 1 := by omega
        go_wp2
        go_loopw [8, 10] (fun k i wr => ∃ t nq : Nat, t ≤ m2 + 1 ∧ k = .int .i64 (m1 + 1 + t : Nat) ∧ i = .int .i64 (t + 1 : Nat) ∧ wr = wc.drewN nq) (fun _ i _ => m2 + 2 - (intOf i).toNat)
        case atStart => exact ⟨0, nq, Nat.zero_le _, by go_num, by go_num, rfl⟩
        case round =>
          obtain ⟨t, nq2, ht, rfl, rfl, rfl⟩ := hrel
          by_cases hlt2 : t < m2 + 1
          · have x1 := da2 t hlt2
            have x2 := cc (t + 1) (by omega)
            clear da1 da2 db cc
            go_wp2
            go_quiet (fail)
            go_wp2
            go_roundw
            case rel => exact ⟨t + 1, _, by omega, by go_num, by go_num, rfl⟩
            case measure => simp [intOf]; omega
          · obtain rfl : t = m2 + 1 := by omega
            go_wp2
            go_ret
            exact ⟨rfl, below_drewN hB _⟩
  · go_enter Try.func4, Try.ntmps4
    go_wp2
    all_goals
      go_ret
      exact ⟨rfl, Below.refl _ _⟩
/-! ### THE ROW's STEP: WRITTEN OUT: LEAVE IT -/
set_option maxRecDepth 100000 in
theorem lifted (os : Os) (started : os.Started) (H : Type) (enc : TypeId × Value → H) :
    ReturnsInHanded {} Try.checked os 4 .any (Rows.fnAppendStringSplitsAtConcatenationSpec.pre6 enc Try.prog Try.f4 Rows.fnAppendStringSplitsAtConcatenationRow.domain false) (Rows.fnAppendStringSplitsAtConcatenationSpec.post enc Try.prog Try.f4 false true false false) := by
  refine returnsInHanded_of_change (C := Try.checked) own started (by kernel_rfl) Try.func4
    (ChangeSpec.witness6 (enc := enc) (C := Try.checked) false ⟨#[], #[.string ByteArray.empty, .string ByteArray.empty], []⟩ 8 (by kernel_rfl) (by kernel_rfl) (by kernel_rfl) (by kernel_rfl)) ?_
  intro W base args ds gs before hval0 hW hcnd _
  have hval : ∀ (j : Nat) t v, Try.f4.params[j]? = some t → args[j]? = some v → Value.okWide Try.prog W .any base t v := hval0
  have hW' := hW
  obtain ⟨p, q, hA0, hV, rfl, hfz, hnd⟩ := hW
  have hA : DataW.TrodAll enc Try.prog W 0 (fun _ => true) true Try.f4.params.toList args.toList ds p := hA0
  rw [Try.params4] at hA hval
  obtain ⟨v0, vs0, d0, ds0, p0, q0, hargs, rfl, rfl, h0, r0⟩ := trodAll_cons hA
  obtain ⟨v1, vs1, d1, ds1, p1, q1, rfl, rfl, rfl, h1, r1⟩ := trodAll_cons r0
  obtain ⟨rfl, rfl, rfl⟩ := trodAll_nil r1
  obtain rfl : args = #[v0, v1] := by cases args; simp_all
  obtain ⟨rfl, rfl⟩ := trodVars_none hV
  obtain ⟨a0, rfl, rfl, rfl, w0⟩ := open_string Try.underlying9 (hval 0 9 v0 rfl rfl) h0
  obtain ⟨a1, rfl, rfl, rfl, w1⟩ := open_string Try.underlying9 (hval 1 9 v1 rfl rfl) h1
  clear hA0 hval0
  simp only [List.append_nil] at hW'
  refine (walk a0 a1 w0 w1 W).mono fun e W' ⟨he, bel⟩ => ?_
  subst he
  exact ⟨_, rfl, _, _, _, [], [], [], hW', trodAll_mk1 (shut_bool Try.underlying4 _), (trodAll_cons_mk (shut_string Try.underlying9 w0) (trodAll_cons_mk (shut_string Try.underlying9 w1) trodAll_mk0)), rfl, bel.frame _, fun h => by cases h⟩

theorem over : Rows.fnAppendStringSplitsAtConcatenationRow.holds Try.pinned (OpenSpec.ofChange Rows.fnAppendStringSplitsAtConcatenationSpec) :=
  OpenClaim.holds_of_wide 4 Try.f4 rfl rfl rfl rfl rfl rfl rfl ⟨rfl, rfl, rfl, rfl, rfl⟩ rfl rfl rfl rfl rfl (by kernel_rfl) Try.func4 (by kernel_rfl)
    (of_decide_eq_true (by kernel_rfl)) (by unfold Func.isWrapper; first | (rw [if_pos (by decide +kernel)]; kernel_rfl) | (rw [if_neg (by decide +kernel)]; exact ⟨rfl, rfl⟩))
    (fun os started H enc _ => lifted os started H enc)

/-- ████ THE STATEMENT ████ -/
theorem proved : Rows.FnAppendStringSplitsAtConcatenationSaid :=
  over
#print axioms proved
end Go.Proofs.Qxb6602860a.fnAppendStringSplitsAtConcatenation
