/-
  'Rows.FnAppendStringWritesCanonicalJSONSaid', PROVED: the walk over the contracts of cloneBytes (Qxb6602860aClone), appendString (Qxb6602860aApp) and decodeCanon (Qxb6602860aDec), then the row's step (the guide's frame).
-/
import Derived.Test.Qxb6602860aDec
import Derived.Test.Qxb6602860aClone
import Derived.Deep.QuietTactic
import Derived.BigQuiet
import Derived.ProofKit
import Derived.OpenShut
import Derived.ShutString
import Derived.ChangeOld
import Derived.Below
namespace Go.Proofs.Qxb6602860a.fnAppendStringWritesCanonicalJSON
open Go.ChangeShapes Go.WideShapes Go.ChangeAt Go.RowKit
open Go.ChangeMaps (open_string shut_string)

theorem own : ownKnob Try.prog.godebug = none := by kernel_rfl
theorem laidOut : laidOutB Try.prog = true := by kernel_rfl

theorem b9 (ao : Option Addr) (n cap : Nat) (s : ByteArray) (w : World) (h : n + s.size ≤ 1048576) :
    Calls Try.prog 9 #[.slice ao n cap, .string s] w fun e w' => e = .returned (.bool true) ∧ w = w' := by
  go_enter Try.func9, Try.ntmps9
  go_wp2
  go_ret
  exact ⟨rfl, rfl⟩

theorem has_hold {w : World} {ao : Option Addr} {l : List UInt8} (h : Has w ao l) : (ao = none → l.length = 0) ∧ ∀ b, ao = some b → ∀ j u, (bc l)[j]? = some u → w.cell? (b.add j) = some u := by
  refine ⟨fun e => by rw [h.1 e]; rfl, fun b hb j u hu => ?_⟩
  rcases h.2 with rfl | ⟨b', off, e, _, hc⟩
  · simp [bc] at hu
  · obtain rfl : b = ⟨b', off, none⟩ := by rw [hb] at e; simpa using e
    have hj : j < l.length := by
      rcases Nat.lt_or_ge j l.length with hj | hj
      · exact hj
      · rw [List.getElem?_eq_none (by rw [bc_length]; exact hj)] at hu; cases hu
    have hadd : (⟨b', off, none⟩ : Addr).add j = ⟨b', off + j, none⟩ := by unfold Addr.add; split <;> simp_all
    rw [hadd, hc j hj]
    simpa [bc, hj] using hu

/-- appendString onto a copy: its length, its bytes. -/
theorem zz_row (ao : Option Addr) (l0 : List UInt8) (s : ByteArray) (w : World) (h : Has w ao l0) (hl0 : l0.length ≤ 1048576) (hs : s.size ≤ 1048576) (N : Nat) (hN : (esc s.data.toList).length = N) :
    Calls Try.prog 11 #[.slice ao l0.length l0.length, .string s] w fun e w' => ∃ g cap, e = .returned (.slice (some ⟨g, 0, none⟩) (l0.length + (N + 2)) cap) ∧ l0.length + (N + 2) ≤ cap ∧ cap ≤ maxLen ∧ Below w.heap.size w w' ∧ g < w'.heap.size ∧
      (∀ j (hj : j < l0.length), w'.cell? ⟨g, j, none⟩ = some (.int .u8 l0[j].toNat)) ∧ (∀ j, j < N + 2 → w'.cell? ⟨g, l0.length + j, none⟩ = some (.int .u8 ((quoted s.data.toList).getD j 0).toNat)) := by
  refine (zz_any ao l0 s w (has_hold h).1 (has_hold h).2 hl0 hs).mono fun e w' ⟨v, he, hb⟩ => ?_
  have hlen : (l0 ++ quoted s.data.toList).length = l0.length + (N + 2) := by rw [List.length_append, quoted_len, hN]
  obtain ⟨g, cap, hv, _, hg, hc1, hc2, hc⟩ := hb.form (by omega)
  rw [hlen] at hv hc1
  refine ⟨g, cap, by rw [he, hv], hc1, hc2, hb.2.1, hg, fun j hj => ?_, fun j hj => ?_⟩
  · rw [hc j (by omega), List.getElem_append_left hj]
  · rw [hc (l0.length + j) (by omega), List.getElem_append_right (by omega)]
    have hj' : j < (quoted s.data.toList).length := by rw [quoted_len]; omega
    simp [List.getD_eq_getElem?_getD, List.getElem?_eq_getElem hj']

/-- decodeCanon at the spelling of s. -/
theorem dec_row (g off cap : Nat) (s : ByteArray) (N : Nat) (w : World) (hN : (esc s.data.toList).length = N) (hs : s.size ≤ 1048576) (hg : g < w.heap.size)
    (hc : ∀ j, j < N + 2 → w.cell? ⟨g, off + j, none⟩ = some (.int .u8 ((quoted s.data.toList).getD j 0).toNat)) :
    Calls Try.prog 12 #[.slice (some ⟨g, off, none⟩) (N + 2) cap] w fun e w' => ∃ ad cd, e = .returned (.tuple #[.slice ad s.size cd, .bool true]) ∧ Below w.heap.size w w' ∧
      (s.size = 0 ∨ ∃ gd, ad = some ⟨gd, 0, none⟩ ∧ ∀ j (hj : j < s.size), w'.cell? ⟨gd, j, none⟩ = some (.int .u8 s[j].toNat)) := by
  have hL : s.data.toList.length = s.size := by rw [Array.length_toList]; rfl
  have hNb : N ≤ 6291456 := by have := (esc_len s.data.toList).2; omega
  refine (dec_any g off cap s.data.toList N w hN (by rw [Hid, hL]; exact hs) hg hNb hc).mono fun e w' ⟨v, he, hb⟩ => ?_
  by_cases h0 : s.size = 0
  · rcases hb.1.2 with ⟨hv, _⟩ | ⟨g', cap', cur, hv, _⟩
    · exact ⟨none, 0, by rw [he, hv, h0], hb.2.1, .inl h0⟩
    · exact ⟨_, cap', by rw [he, hv, hL], hb.2.1, .inl h0⟩
  · obtain ⟨g', cap', hv, _, _, _, _, hcc⟩ := hb.form (by omega)
    exact ⟨_, cap', by rw [he, hv, hL], hb.2.1, .inr ⟨g', rfl, fun j hj => hcc j (by omega)⟩⟩

set_option maxHeartbeats 1000000 in
theorem walk0 (ao : Option Addr) (l0 : List UInt8) (cap0 : Nat) (s : ByteArray) (w : World) (h0 : Has w ao l0) (hs : l0.length + s.size ≤ 1048576) :
    Calls Try.prog 3 #[.slice ao l0.length cap0, .string s] w fun e w' => e = .returned (.bool true) ∧ Below w.heap.size w w' := by
  obtain ⟨N, HN⟩ : ∃ N, Hid ((esc s.data.toList).length = N) := ⟨_, rfl⟩
  have hNb : N ≤ 6291456 := by
    have := (esc_len s.data.toList).2
    have hL : s.data.toList.length = s.size := by rw [Array.length_toList]; rfl
    have := HN.out; omega
  go_enter Try.func3, Try.ntmps3
  go_wp2_with (go_at_call 9; refine (b9 _ _ _ _ _ hs).mono ?_; rintro e w' ⟨rfl, rfl⟩)
  refine (clone_any ao l0 cap0 w (by omega) h0).mono ?_
  rintro e w1 ⟨ao1, rfl, -, h1, hb1⟩
  go_wp2_with fail
  refine (zz_row ao1 l0 s w1 h1 (by omega) (by omega) N HN.out).mono ?_
  rintro e w2 ⟨g, cap, rfl, hcap, hcm, hb2, hg, ca, cb⟩
  have hB : Below w.heap.size w w2 := hb1.trans (hb2.mono hb1.size)
  have h2 := h1.later hb2
  unfold maxLen at hcm
  have CA : Hid _ := ca
  have CB : Hid _ := cb
  have H2 : Hid _ := h2
  clear h1 h2 h0 hb1 hb2 ca cb
  go_wp2
  go_loopw [6] (fun i wr => ∃ k nq : Nat, k ≤ l0.length ∧ i = .int .i64 k ∧ wr = w2.drewN nq) (fun i _ => l0.length - (intOf i).toNat)
  case atStart => exact ⟨0, 0, Nat.zero_le _, rfl, rfl⟩
  case round =>
    obtain ⟨k, nq, hk, rfl, rfl⟩ := hrel
    by_cases hlt : k < l0.length
    · have x1 := CA.out k hlt
      rcases H2.out.2 with rfl | ⟨b, off, rfl, hbl, hcc⟩
      · simp at hlt
      have x2 := hcc k hlt
      clear hcc
      go_wp2
      go_quiet (fail)
      go_wp2
      go_roundw
      case rel => exact ⟨k + 1, _, by omega, by go_num, rfl⟩
      case measure => simp [intOf]; omega
    · obtain rfl : k = l0.length := by omega
      go_wp2_with fail
      refine (dec_row g l0.length (cap - l0.length) s N (w2.drewN nq) HN.out (by omega) hg CB.out).mono ?_
      rintro e w3 ⟨ad, cd, rfl, hb3, hd⟩
      have hB3 : Below w.heap.size w w3 := (below_drewN hB nq).trans (hb3.mono hB.size)
      have HD : Hid _ := hd
      clear hd hb3
      go_wp2
      go_loopw [9] (fun i wr => ∃ k nq : Nat, k ≤ s.size ∧ i = .int .i64 k ∧ wr = w3.drewN nq) (fun i _ => s.size - (intOf i).toNat)
      case atStart => exact ⟨0, 0, Nat.zero_le _, rfl, rfl⟩
      case round =>
        obtain ⟨k, nq2, hk2, rfl, rfl⟩ := hrel
        by_cases hlt2 : k < s.size
        · rcases HD.out with h0 | ⟨gd, rfl, hcc⟩
          · omega
          have x2 := hcc k hlt2
          clear hcc
          go_wp2
          go_quiet (fail)
          go_wp2
          go_roundw
          case rel => exact ⟨k + 1, _, by omega, by go_num, rfl⟩
          case measure => simp [intOf]; omega
        · obtain rfl : k = s.size := by omega
          go_wp2
          go_ret
          exact ⟨rfl, below_drewN hB3 _⟩

set_option maxHeartbeats 400000 in
theorem walk (a0 : Option Addr) (len0 cap0 : Nat) (z0 : List Int) (a1 : ByteArray) (w : World) (w0 : IsRow .u8 w a0 len0 cap0 z0) (w1 : a1.size ≤ maxLen) :
    Calls Try.prog 3 #[.slice a0 len0 cap0, .string a1] w fun e w' => e = .returned (.bool true) ∧ Below w.heap.size w w' := by
  have hm : len0 ≤ maxLen := by rcases w0 with ⟨_, h, _⟩ | ⟨_, _, h1, h2, _⟩ <;> omega
  obtain ⟨l, rfl, h⟩ := has_of w0
  by_cases hs : l.length + a1.size ≤ 1048576
  · exact walk0 a0 l cap0 a1 w h hs
  · unfold maxLen at hm w1
    clear w0 h
    obtain ⟨n, hn⟩ : ∃ n, l.length = n := ⟨_, rfl⟩
    rw [hn] at hs hm ⊢
    clear hn
    go_enter Try.func3, Try.ntmps3
    go_wp2
    all_goals
      go_ret
      exact ⟨rfl, Below.refl _ _⟩
/-! ### THE ROW's STEP: WRITTEN OUT: LEAVE IT -/
set_option maxRecDepth 100000 in
theorem lifted (os : Os) (started : os.Started) (H : Type) (enc : TypeId × Value → H) :
    ReturnsInHanded {} Try.checked os 3 .any (Rows.fnAppendStringWritesCanonicalJSONSpec.pre6 enc Try.prog Try.f3 Rows.fnAppendStringWritesCanonicalJSONRow.domain false) (Rows.fnAppendStringWritesCanonicalJSONSpec.post enc Try.prog Try.f3 false true false false) := by
  refine returnsInHanded_of_change (C := Try.checked) own started (by kernel_rfl) Try.func3
    (ChangeSpec.witness6 (enc := enc) (C := Try.checked) false ⟨#[], #[.slice none 0 0, .string ByteArray.empty], []⟩ 8 (by kernel_rfl) (by kernel_rfl) (by kernel_rfl) (by kernel_rfl)) ?_
  intro W base args ds gs before hval0 hW hcnd _
  have hval : ∀ (j : Nat) t v, Try.f3.params[j]? = some t → args[j]? = some v → Value.okWide Try.prog W .any base t v := hval0
  have hW' := hW
  obtain ⟨p, q, hA0, hV, rfl, hfz, hnd⟩ := hW
  have hA : DataW.TrodAll enc Try.prog W 0 (fun _ => true) true Try.f3.params.toList args.toList ds p := hA0
  rw [Try.params3] at hA hval
  obtain ⟨v0, vs0, d0, ds0, p0, q0, hargs, rfl, rfl, h0, r0⟩ := trodAll_cons hA
  obtain ⟨v1, vs1, d1, ds1, p1, q1, rfl, rfl, rfl, h1, r1⟩ := trodAll_cons r0
  obtain ⟨rfl, rfl, rfl⟩ := trodAll_nil r1
  obtain rfl : args = #[v0, v1] := by cases args; simp_all
  obtain ⟨rfl, rfl⟩ := trodVars_none hV
  obtain ⟨a0, len0, cap0, rfl⟩ := okWide_slice Try.underlying22 (hval 0 22 v0 rfl rfl)
  have k0 := h0
  have lt0 : ∀ x ∈ p0, x.block < W.heap.size := by obtain ⟨m, hm⟩ := k0; exact DataW.trod_lt m _ _ _ hm
  obtain ⟨z0, w0⟩ : ∃ zs, IsRow .u8 W a0 len0 cap0 zs := by
    obtain ⟨fuel, hf⟩ := h0
    rcases open_ints Try.underlying22 Try.underlying5 (by kernel_rfl) hf with ⟨hcs, _⟩ | ⟨x, l, c, zs, hcs, _, hl, hm, hz, _, hcell, hwz⟩
    · simp [Value.cells] at hcs
      obtain ⟨rfl, rfl, rfl⟩ := hcs
      exact ⟨[], .inl ⟨rfl, rfl, rfl, rfl⟩⟩
    · simp [Value.cells] at hcs
      obtain ⟨rfl, rfl, rfl⟩ := hcs
      exact ⟨zs, .inr ⟨_, rfl, hl, hm, by simpa using hz, hcell, hwz⟩⟩
  obtain ⟨a1, rfl, rfl, rfl, w1⟩ := open_string Try.underlying9 (hval 1 9 v1 rfl rfl) h1
  clear hA0 hval0
  refine (walk a0 len0 cap0 z0 a1 W w0 w1).mono fun e W' ⟨he, bel⟩ => ?_
  subst he
  exact ⟨_, rfl, _, _, _, [], _, [], hW', trodAll_mk1 (shut_bool Try.underlying4 _), (trodAll_cons_mk (Below.trod laidOut (by kernel_rfl) (of_decide_eq_true (by kernel_rfl)) k0 bel lt0) (trodAll_cons_mk (shut_string Try.underlying9 w1) trodAll_mk0)), rfl, bel.frame _, fun h => by cases h⟩

theorem over : Rows.fnAppendStringWritesCanonicalJSONRow.holds Try.pinned (OpenSpec.ofChange Rows.fnAppendStringWritesCanonicalJSONSpec) :=
  OpenClaim.holds_of_wide 3 Try.f3 rfl rfl rfl rfl rfl rfl rfl ⟨rfl, rfl, rfl, rfl, rfl⟩ rfl rfl rfl rfl rfl (by kernel_rfl) Try.func3 (by kernel_rfl)
    (of_decide_eq_true (by kernel_rfl)) (by unfold Func.isWrapper; first | (rw [if_pos (by decide +kernel)]; kernel_rfl) | (rw [if_neg (by decide +kernel)]; exact ⟨rfl, rfl⟩))
    (fun os started H enc _ => lifted os started H enc)

/-- ████ THE STATEMENT ████ -/
theorem proved : Rows.FnAppendStringWritesCanonicalJSONSaid := over
#print axioms proved
end Go.Proofs.Qxb6602860a.fnAppendStringWritesCanonicalJSON
