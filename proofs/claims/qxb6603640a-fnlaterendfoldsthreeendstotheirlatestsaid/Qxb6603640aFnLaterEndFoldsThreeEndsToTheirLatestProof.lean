/-
  'Rows.FnLaterEndFoldsThreeEndsToTheirLatestSaid', PROVED: the walk over the contracts of zzCloneEnd, laterEnd, zzSameBytes and zzCompareBytes (Qxb6603640aEnds) and the plain order (Qxb6603640aOrder), then the row's step (the guide's frame).
-/
import Derived.Test.Qxb6603640aEnds
import Derived.ProofKit
import Derived.OpenShut
import Derived.ShutString
import Derived.ChangeOld
import Derived.Below
namespace Go.Proofs.Qxb6603640a.fnLaterEndFoldsThreeEndsToTheirLatest
open Go.ChangeShapes Go.WideShapes Go.ChangeAt Go.RowKit

theorem own : ownKnob Try.prog.godebug = none := by kernel_rfl
theorem laidOut : laidOutB Try.prog = true := by kernel_rfl
open Go.Op (bytesLess)

theorem b11 (aa : Option Addr) (n ca : Nat) (ab : Option Addr) (m cb : Nat) (ac : Option Addr) (k cc : Nat) (w : World) (h : n + m + k ≤ 1048576) :
    Calls Try.prog 11 #[.slice aa n ca, .slice ab m cb, .slice ac k cc] w fun e w' => e = .returned (.bool true) ∧ w = w' := by
  go_enter Try.func11, Try.ntmps11
  go_wp2
  go_ret
  exact ⟨rfl, rfl⟩

/-- An end's bytes are no more than N. -/
def EB (e : Option (List UInt8)) (N : Nat) : Prop := ∀ l, e = some l → l.length ≤ N

theorem eb_of {a : Option Addr} {l : List UInt8} {N : Nat} (h : l.length ≤ N) : EB (endOf a l) N := by
  intro m hm
  cases a with
  | none => cases hm
  | some x => obtain rfl : l = m := by simpa [endOf] using hm
              exact h

theorem eb_later {a b : Option (List UInt8)} {N : Nat} (ha : EB a N) (hb : EB b N) : EB (later a b) N := by
  intro m hm
  cases a with
  | none => cases hm
  | some x =>
    cases b with
    | none => cases hm
    | some y =>
      simp only [later] at hm
      split at hm
      · exact hb m hm
      · exact ha m hm

set_option maxHeartbeats 400000 in
theorem sameend_same (vx vy : Value) (ee : Option (List UInt8)) (w : World) (hx : End w vx ee) (hy : End w vy ee) (hl : EB ee 1048576) :
    Calls Try.prog 12 #[vx, vy] w fun e w' => e = .returned (.bool true) ∧ ∃ nq, w' = w.drewN nq := by
  have q : ∀ (w : World) (a : Option Addr) (n c n' c' : Nat), (binOp .eql 22 (.slice a n c) (.slice none n' c')).run Try.prog w = .ok (.bool a.isNone) w := fun w a n c n' c' => Lib.run_eql_slice_nil w 22 5 a n c n' c' Try.underlying22
  rcases hx with ⟨rfl, rfl⟩ | ⟨x, l, cx, rfl, rfl, gx⟩
  · rcases hy with ⟨_, rfl⟩ | ⟨_, _, _, hh, _⟩
    · have H : Hid (Has w none []) := ⟨fun _ => rfl, .inl rfl⟩
      go_enter Try.func12, Try.ntmps12
      go_wp2_with fail
      refine (same_any none [] 0 none [] 0 w H.out H.out (by simp)).mono ?_
      rintro e w' ⟨rfl, nq, rfl⟩
      rw [decide_eq_true rfl]
      go_wp2
      go_ret
      exact ⟨rfl, _, rfl⟩
    · cases hh
  · rcases hy with ⟨hh, _⟩ | ⟨y, l2, cy, hh, rfl, gy⟩
    · cases hh
    obtain rfl : l = l2 := by simpa using hh
    have HX : Hid (Has w (some x) l) := gx
    have HY : Hid (Has w (some y) l) := gy
    have hl' := hl l rfl
    clear gx gy hh hl
    go_enter Try.func12, Try.ntmps12
    go_wp2_with fail
    refine (same_any (some x) l cx (some y) l cy w HX.out HY.out hl').mono ?_
    rintro e w' ⟨rfl, nq, rfl⟩
    rw [decide_eq_true rfl]
    go_wp2
    go_ret
    exact ⟨rfl, _, rfl⟩

set_option maxHeartbeats 2000000 in
theorem walk0 (aa : Option Addr) (la : List UInt8) (ca : Nat) (ab : Option Addr) (lb : List UInt8) (cb : Nat) (ac : Option Addr) (lc : List UInt8) (cc : Nat) (w : World) (ha : Has w aa la) (hb : Has w ab lb) (hc : Has w ac lc)
    (h1 : la.length ≤ 262144) (h2 : lb.length ≤ 262144) (h3 : lc.length ≤ 262144) :
    Calls Try.prog 4 #[.slice aa la.length ca, .slice ab lb.length cb, .slice ac lc.length cc] w fun e w' => e = .returned (.bool true) ∧ Below w.heap.size w w' := by
  have q : ∀ (w : World) (a : Option Addr) (n c n' c' : Nat), (binOp .eql 22 (.slice a n c) (.slice none n' c')).run Try.prog w = .ok (.bool a.isNone) w := fun w a n c n' c' => Lib.run_eql_slice_nil w 22 5 a n c n' c' Try.underlying22
  have HA : Hid (Has w aa la) := ha
  have HB : Hid (Has w ab lb) := hb
  have HC : Hid (Has w ac lc) := hc
  clear ha hb hc
  go_enter Try.func4, Try.ntmps4
  go_wp2_with (go_at_call 11; refine (b11 _ _ _ _ _ _ _ _ _ _ (by omega)).mono ?_; rintro e w' ⟨rfl, rfl⟩)
  refine (clone_end aa la ca w (by omega) HA.out).mono ?_
  rintro e w1 ⟨va, rfl, ea, hb1⟩
  have EA : Hid (End w1 va (endOf aa la)) := ea
  clear ea
  go_wp2_with fail
  refine (clone_end ab lb cb w1 (by omega) (HB.out.later hb1)).mono ?_
  rintro e w2 ⟨vb, rfl, eb, hb2⟩
  have EA2 : Hid (End w2 va (endOf aa la)) := EA.out.later hb2
  have EB2 : Hid (End w2 vb (endOf ab lb)) := eb
  have hB2 : Below w.heap.size w w2 := hb1.trans (hb2.mono hb1.size)
  clear eb EA hb1 hb2
  go_wp2_with fail
  refine (clone_end ac lc cc w2 (by omega) (HC.out.later hB2)).mono ?_
  rintro e w3 ⟨vc, rfl, ec, hb3⟩
  have EA3 : Hid (End w3 va (endOf aa la)) := EA2.out.later hb3
  have EB3 : Hid (End w3 vb (endOf ab lb)) := EB2.out.later hb3
  have EC3 : Hid (End w3 vc (endOf ac lc)) := ec
  have hB : Below w.heap.size w w3 := hB2.trans (hb3.mono hB2.size)
  clear ec EA2 EB2 hb3 hB2
  go_wp2_with fail
  refine (zzlater_any va vb _ _ w3 EA3.out EB3.out).mono ?_
  rintro e w' ⟨v1, rfl, e1, rfl⟩
  have E1 : Hid _ := e1
  clear e1
  go_wp2_with fail
  refine (zzlater_any v1 vc _ _ w3 E1.out EC3.out).mono ?_
  rintro e w' ⟨vx, rfl, ex, rfl⟩
  have EX : Hid (End w3 vx (later (later (endOf aa la) (endOf ab lb)) (endOf ac lc))) := ex
  clear ex
  go_wp2_with fail
  refine (zzlater_any vb vc _ _ w3 EB3.out EC3.out).mono ?_
  rintro e w' ⟨v2, rfl, e2, rfl⟩
  have E2 : Hid _ := e2
  clear e2
  go_wp2_with fail
  refine (zzlater_any va v2 _ _ w3 EA3.out E2.out).mono ?_
  rintro e w' ⟨vy, rfl, ey, rfl⟩
  have EY : Hid (End w3 vy (later (later (endOf aa la) (endOf ab lb)) (endOf ac lc))) := by rw [later_assoc]; exact ey
  clear ey
  go_wp2_with fail
  refine (zzlater_any vb va _ _ w3 EB3.out EA3.out).mono ?_
  rintro e w' ⟨v3, rfl, e3, rfl⟩
  have E3 : Hid _ := e3
  clear e3
  go_wp2_with fail
  refine (zzlater_any vc v3 _ _ w3 EC3.out E3.out).mono ?_
  rintro e w' ⟨vz, rfl, ez, rfl⟩
  have EZ : Hid (End w3 vz (later (later (endOf aa la) (endOf ab lb)) (endOf ac lc))) := by rw [later_comm, later_comm (endOf aa la)]; exact ez
  clear ez
  have EBd : Hid (EB (later (later (endOf aa la) (endOf ab lb)) (endOf ac lc)) 1048576) := eb_later (eb_later (eb_of (by omega)) (eb_of (by omega))) (eb_of (by omega))
  go_wp2_with fail
  refine (sameend_same vx vy _ w3 EX.out EY.out EBd.out).mono ?_
  rintro e w' ⟨rfl, nq, rfl⟩
  go_wp2_with fail
  refine (sameend_same vx vz _ (w3.drewN nq) (EX.out.later (below_drewN (Below.refl _ _) _)) (EZ.out.later (below_drewN (Below.refl _ _) _)) EBd.out).mono ?_
  rintro e w' ⟨rfl, nq2, rfl⟩
  clear E1 E2 E3 EBd
  cases aa with
  | none =>
    rcases EA3.out with ⟨-, rfl⟩ | ⟨_, _, _, hh, _⟩
    · rcases EX.out with ⟨-, rfl⟩ | ⟨_, _, _, hh, _⟩
      · go_wp2
        go_ret
        exact ⟨rfl, by first | exact below_drewN hB _ | exact below_drewN (below_drewN hB _) _⟩
      · cases hh
    · cases hh
  | some xa =>
    rcases EA3.out with ⟨hh, _⟩ | ⟨x1, l1, c1, hh1, rfl, g1⟩
    · cases hh
    obtain rfl : la = l1 := by simpa [endOf] using hh1
    have G1 : Hid (Has w3 (some x1) la) := g1
    clear g1 hh1 EA3
    cases ab with
    | none =>
      rcases EB3.out with ⟨-, rfl⟩ | ⟨_, _, _, hh, _⟩
      · rcases EX.out with ⟨-, rfl⟩ | ⟨_, _, _, hh, _⟩
        · go_wp2
          go_ret
          exact ⟨rfl, by first | exact below_drewN hB _ | exact below_drewN (below_drewN hB _) _⟩
        · cases hh
      · cases hh
    | some xb =>
      rcases EB3.out with ⟨hh, _⟩ | ⟨x2, l2, c2, hh2, rfl, g2⟩
      · cases hh
      obtain rfl : lb = l2 := by simpa [endOf] using hh2
      have G2 : Hid (Has w3 (some x2) lb) := g2
      clear g2 hh2 EB3
      cases ac with
      | none =>
        rcases EC3.out with ⟨-, rfl⟩ | ⟨_, _, _, hh, _⟩
        · rcases EX.out with ⟨-, rfl⟩ | ⟨_, _, _, hh, _⟩
          · go_wp2
            go_ret
            exact ⟨rfl, by first | exact below_drewN hB _ | exact below_drewN (below_drewN hB _) _⟩
          · rw [show endOf none lc = none from rfl, later_open] at hh; cases hh
        · cases hh
      | some xc =>
        rcases EC3.out with ⟨hh, _⟩ | ⟨x3, l3, c3, hh3, rfl, g3⟩
        · cases hh
        obtain rfl : lc = l3 := by simpa [endOf] using hh3
        obtain ⟨m, hm, hm0, hm1, hm2, hm3⟩ := later_three la lb lc
        have hm' : later (later (endOf (some xa) la) (endOf (some xb) lb)) (endOf (some xc) lc) = some m := hm
        rcases EX.out with ⟨hh, _⟩ | ⟨x4, l4, c4, hh4, rfl, g4⟩
        · rw [hm'] at hh; cases hh
        obtain rfl : m = l4 := by rw [hm'] at hh4; simpa using hh4
        have L1 : Hid (bytesLess m la = false) := hm1
        have L2 : Hid (bytesLess m lb = false) := hm2
        have L3 : Hid (bytesLess m lc = false) := hm3
        have HM : Hid (m = la ∨ m = lb ∨ m = lc) := hm0
        have G3 : Hid (Has w3 (some x3) lc) := g3
        have G4 : Hid (Has w3 (some x4) m) := g4
        have hml : m.length ≤ 262144 := by rcases hm0 with rfl | rfl | rfl <;> omega
        clear g3 g4 hm hm' hm0 hm1 hm2 hm3 hh3 hh4 EX EY EZ EC3
        go_wp2_with fail
        refine (same_any (some x4) m c4 (some x1) la c1 _ (G4.out.drewN _) (G1.out.drewN _) (by omega)).mono ?_
        rintro e w' ⟨rfl, n1, rfl⟩
        by_cases hma : m = la
        · rw [decide_eq_true hma]
          have HMA : Hid (m = la) := hma
          clear hma
          go_wp2_with fail
          refine (cmp_any (some x4) m c4 (some x1) la c1 _ (G4.out.drewN _) (G1.out.drewN _) (by omega) (by omega)).mono ?_
          rintro e w' ⟨⟨r0, rfl, hr0⟩, k0, rfl⟩
          have hs0 : 0 ≤ r0 := hr0.2 L1.out
          clear hr0
          go_wp2_with fail
          refine (cmp_any (some x4) m c4 (some x2) lb c2 _ (G4.out.drewN _) (G2.out.drewN _) (by omega) (by omega)).mono ?_
          rintro e w' ⟨⟨r1, rfl, hr1⟩, k1, rfl⟩
          have hs1 : 0 ≤ r1 := hr1.2 L2.out
          clear hr1
          go_wp2_with fail
          refine (cmp_any (some x4) m c4 (some x3) lc c3 _ (G4.out.drewN _) (G3.out.drewN _) (by omega) (by omega)).mono ?_
          rintro e w' ⟨⟨r2, rfl, hr2⟩, k2, rfl⟩
          have hs2 : 0 ≤ r2 := hr2.2 L3.out
          clear hr2
          go_wp2
          go_ret
          exact ⟨rfl, by first | exact below_drewN hB _ | exact below_drewN (below_drewN hB _) _⟩
        · rw [decide_eq_false hma]
          have HN : Hid (m = lb ∨ m = lc) := HM.out.resolve_left hma
          clear hma
          go_wp2_with fail
          refine (same_any (some x4) m c4 (some x2) lb c2 _ (G4.out.drewN _) (G2.out.drewN _) (by omega)).mono ?_
          rintro e w' ⟨rfl, n2, rfl⟩
          by_cases hmb : m = lb
          · rw [decide_eq_true hmb]
            have HMB : Hid (m = lb) := hmb
            clear hmb
            go_wp2_with fail
            refine (cmp_any (some x4) m c4 (some x1) la c1 _ (G4.out.drewN _) (G1.out.drewN _) (by omega) (by omega)).mono ?_
            rintro e w' ⟨⟨r0, rfl, hr0⟩, k0, rfl⟩
            have hs0 : 0 ≤ r0 := hr0.2 L1.out
            clear hr0
            go_wp2_with fail
            refine (cmp_any (some x4) m c4 (some x2) lb c2 _ (G4.out.drewN _) (G2.out.drewN _) (by omega) (by omega)).mono ?_
            rintro e w' ⟨⟨r1, rfl, hr1⟩, k1, rfl⟩
            have hs1 : 0 ≤ r1 := hr1.2 L2.out
            clear hr1
            go_wp2_with fail
            refine (cmp_any (some x4) m c4 (some x3) lc c3 _ (G4.out.drewN _) (G3.out.drewN _) (by omega) (by omega)).mono ?_
            rintro e w' ⟨⟨r2, rfl, hr2⟩, k2, rfl⟩
            have hs2 : 0 ≤ r2 := hr2.2 L3.out
            clear hr2
            go_wp2
            go_ret
            exact ⟨rfl, by first | exact below_drewN hB _ | exact below_drewN (below_drewN hB _) _⟩
          · rw [decide_eq_false hmb]
            have HMC : Hid (m = lc) := HN.out.resolve_left hmb
            clear hmb
            go_wp2_with fail
            refine (same_any (some x4) m c4 (some x3) lc c3 _ (G4.out.drewN _) (G3.out.drewN _) (by omega)).mono ?_
            rintro e w' ⟨rfl, n3, rfl⟩
            rw [decide_eq_true HMC.out]
            go_wp2_with fail
            refine (cmp_any (some x4) m c4 (some x1) la c1 _ (G4.out.drewN _) (G1.out.drewN _) (by omega) (by omega)).mono ?_
            rintro e w' ⟨⟨r0, rfl, hr0⟩, k0, rfl⟩
            have hs0 : 0 ≤ r0 := hr0.2 L1.out
            clear hr0
            go_wp2_with fail
            refine (cmp_any (some x4) m c4 (some x2) lb c2 _ (G4.out.drewN _) (G2.out.drewN _) (by omega) (by omega)).mono ?_
            rintro e w' ⟨⟨r1, rfl, hr1⟩, k1, rfl⟩
            have hs1 : 0 ≤ r1 := hr1.2 L2.out
            clear hr1
            go_wp2_with fail
            refine (cmp_any (some x4) m c4 (some x3) lc c3 _ (G4.out.drewN _) (G3.out.drewN _) (by omega) (by omega)).mono ?_
            rintro e w' ⟨⟨r2, rfl, hr2⟩, k2, rfl⟩
            have hs2 : 0 ≤ r2 := hr2.2 L3.out
            clear hr2
            go_wp2
            go_ret
            exact ⟨rfl, by first | exact below_drewN hB _ | exact below_drewN (below_drewN hB _) _⟩

set_option maxHeartbeats 400000 in
theorem walk (a0 : Option Addr) (len0 cap0 : Nat) (z0 : List Int) (a1 : Option Addr) (len1 cap1 : Nat) (z1 : List Int) (a2 : Option Addr) (len2 cap2 : Nat) (z2 : List Int) (w : World) (w0 : IsRow .u8 w a0 len0 cap0 z0) (w1 : IsRow .u8 w a1 len1 cap1 z1) (w2 : IsRow .u8 w a2 len2 cap2 z2) :
    Calls Try.prog 4 #[.slice a0 len0 cap0, .slice a1 len1 cap1, .slice a2 len2 cap2] w fun e w' => e = .returned (.bool true) ∧ Below w.heap.size w w' := by
  have m0 : len0 ≤ maxLen := by rcases w0 with ⟨_, h, _⟩ | ⟨_, _, h1, h2, _⟩ <;> omega
  have m1 : len1 ≤ maxLen := by rcases w1 with ⟨_, h, _⟩ | ⟨_, _, h1, h2, _⟩ <;> omega
  have m2 : len2 ≤ maxLen := by rcases w2 with ⟨_, h, _⟩ | ⟨_, _, h1, h2, _⟩ <;> omega
  obtain ⟨la, rfl, ha⟩ := has_of w0
  obtain ⟨lb, rfl, hb⟩ := has_of w1
  obtain ⟨lc, rfl, hc⟩ := has_of w2
  by_cases hs : la.length ≤ 262144 ∧ lb.length ≤ 262144 ∧ lc.length ≤ 262144
  · exact walk0 a0 la cap0 a1 lb cap1 a2 lc cap2 w ha hb hc hs.1 hs.2.1 hs.2.2
  · unfold maxLen at m0 m1 m2
    clear w0 w1 w2 ha hb hc
    obtain ⟨n, hn⟩ : ∃ n, la.length = n := ⟨_, rfl⟩
    obtain ⟨m, hm⟩ : ∃ m, lb.length = m := ⟨_, rfl⟩
    obtain ⟨k, hk⟩ : ∃ k, lc.length = k := ⟨_, rfl⟩
    rw [hn] at hs m0 ⊢
    rw [hm] at hs m1 ⊢
    rw [hk] at hs m2 ⊢
    clear hn hm hk
    by_cases h1 : n ≤ 262144
    · by_cases h2 : m ≤ 262144
      · have h3 : 262144 < k := by omega
        clear hs
        go_enter Try.func4, Try.ntmps4
        go_wp2
        all_goals
          go_ret
          exact ⟨rfl, Below.refl _ _⟩
      · clear hs
        go_enter Try.func4, Try.ntmps4
        go_wp2
        all_goals
          go_ret
          exact ⟨rfl, Below.refl _ _⟩
    · clear hs
      go_enter Try.func4, Try.ntmps4
      go_wp2
      all_goals
        go_ret
        exact ⟨rfl, Below.refl _ _⟩
/-! ### THE ROW's STEP: WRITTEN OUT: LEAVE IT -/
set_option maxRecDepth 100000 in
theorem lifted (os : Os) (started : os.Started) (H : Type) (enc : TypeId × Value → H) :
    ReturnsInHanded {} Try.checked os 4 .any (Rows.fnLaterEndFoldsThreeEndsToTheirLatestSpec.pre6 enc Try.prog Try.f4 Rows.fnLaterEndFoldsThreeEndsToTheirLatestRow.domain false) (Rows.fnLaterEndFoldsThreeEndsToTheirLatestSpec.post enc Try.prog Try.f4 false true false false) := by
  refine returnsInHanded_of_change (C := Try.checked) own started (by kernel_rfl) Try.func4
    (ChangeSpec.witness6 (enc := enc) (C := Try.checked) false ⟨#[], #[.slice none 0 0, .slice none 0 0, .slice none 0 0], []⟩ 8 (by kernel_rfl) (by kernel_rfl) (by kernel_rfl) (by kernel_rfl)) ?_
  intro W base args ds gs before hval0 hW hcnd _
  have hval : ∀ (j : Nat) t v, Try.f4.params[j]? = some t → args[j]? = some v → Value.okWide Try.prog W .any base t v := hval0
  have hW' := hW
  obtain ⟨p, q, hA0, hV, rfl, hfz, hnd⟩ := hW
  have hA : DataW.TrodAll enc Try.prog W 0 (fun _ => true) true Try.f4.params.toList args.toList ds p := hA0
  rw [Try.params4] at hA hval
  obtain ⟨v0, vs0, d0, ds0, p0, q0, hargs, rfl, rfl, h0, r0⟩ := trodAll_cons hA
  obtain ⟨v1, vs1, d1, ds1, p1, q1, rfl, rfl, rfl, h1, r1⟩ := trodAll_cons r0
  obtain ⟨v2, vs2, d2, ds2, p2, q2, rfl, rfl, rfl, h2, r2⟩ := trodAll_cons r1
  obtain ⟨rfl, rfl, rfl⟩ := trodAll_nil r2
  obtain rfl : args = #[v0, v1, v2] := by cases args; simp_all
  obtain ⟨rfl, rfl⟩ := trodVars_none hV
  obtain ⟨a0, len0, cap0, rfl⟩ := okWide_slice Try.underlying22 (hval 0 22 v0 rfl rfl)
  have k0 := h0
  have lt0 : ∀ x ∈ p0, x.block < W.heap.size := by obtain ⟨m, hm⟩ := k0; exact DataW.trod_lt m _ _ _ hm
  obtain ⟨z0, w0⟩ : ∃ zs, IsRow .u8 W a0 len0 cap0 zs := by
    obtain ⟨fuel, hf⟩ := h0
    rcases open_ints Try.underlying22 Try.underlying5 (by kernel_rfl) hf with ⟨hcs, _⟩ | ⟨x, l, c, zs, hcs, _, hl, hm, hz, _, hcell, hwz⟩
    · simp [Value.cells] at hcs
      obtain ⟨rfl, rfl, rfl⟩ := hcs
      exact ⟨[], .inl ⟨rfl, rfl, rfl, rfl⟩⟩
    · simp [Value.cells] at hcs
      obtain ⟨rfl, rfl, rfl⟩ := hcs
      exact ⟨zs, .inr ⟨_, rfl, hl, hm, by simpa using hz, hcell, hwz⟩⟩
  obtain ⟨a1, len1, cap1, rfl⟩ := okWide_slice Try.underlying22 (hval 1 22 v1 rfl rfl)
  have k1 := h1
  have lt1 : ∀ x ∈ p1, x.block < W.heap.size := by obtain ⟨m, hm⟩ := k1; exact DataW.trod_lt m _ _ _ hm
  obtain ⟨z1, w1⟩ : ∃ zs, IsRow .u8 W a1 len1 cap1 zs := by
    obtain ⟨fuel, hf⟩ := h1
    rcases open_ints Try.underlying22 Try.underlying5 (by kernel_rfl) hf with ⟨hcs, _⟩ | ⟨x, l, c, zs, hcs, _, hl, hm, hz, _, hcell, hwz⟩
    · simp [Value.cells] at hcs
      obtain ⟨rfl, rfl, rfl⟩ := hcs
      exact ⟨[], .inl ⟨rfl, rfl, rfl, rfl⟩⟩
    · simp [Value.cells] at hcs
      obtain ⟨rfl, rfl, rfl⟩ := hcs
      exact ⟨zs, .inr ⟨_, rfl, hl, hm, by simpa using hz, hcell, hwz⟩⟩
  obtain ⟨a2, len2, cap2, rfl⟩ := okWide_slice Try.underlying22 (hval 2 22 v2 rfl rfl)
  have k2 := h2
  have lt2 : ∀ x ∈ p2, x.block < W.heap.size := by obtain ⟨m, hm⟩ := k2; exact DataW.trod_lt m _ _ _ hm
  obtain ⟨z2, w2⟩ : ∃ zs, IsRow .u8 W a2 len2 cap2 zs := by
    obtain ⟨fuel, hf⟩ := h2
    rcases open_ints Try.underlying22 Try.underlying5 (by kernel_rfl) hf with ⟨hcs, _⟩ | ⟨x, l, c, zs, hcs, _, hl, hm, hz, _, hcell, hwz⟩
    · simp [Value.cells] at hcs
      obtain ⟨rfl, rfl, rfl⟩ := hcs
      exact ⟨[], .inl ⟨rfl, rfl, rfl, rfl⟩⟩
    · simp [Value.cells] at hcs
      obtain ⟨rfl, rfl, rfl⟩ := hcs
      exact ⟨zs, .inr ⟨_, rfl, hl, hm, by simpa using hz, hcell, hwz⟩⟩
  clear hA0 hval0
  refine (walk a0 len0 cap0 z0 a1 len1 cap1 z1 a2 len2 cap2 z2 W w0 w1 w2).mono fun e W' ⟨he, bel⟩ => ?_
  subst he
  exact ⟨_, rfl, _, _, _, [], _, [], hW', trodAll_mk1 (shut_bool Try.underlying4 _), (trodAll_cons_mk (Below.trod laidOut (by kernel_rfl) (of_decide_eq_true (by kernel_rfl)) k0 bel lt0) (trodAll_cons_mk (Below.trod laidOut (by kernel_rfl) (of_decide_eq_true (by kernel_rfl)) k1 bel lt1) (trodAll_cons_mk (Below.trod laidOut (by kernel_rfl) (of_decide_eq_true (by kernel_rfl)) k2 bel lt2) trodAll_mk0))), rfl, bel.frame _, fun h => by cases h⟩

theorem over : Rows.fnLaterEndFoldsThreeEndsToTheirLatestRow.holds Try.pinned (OpenSpec.ofChange Rows.fnLaterEndFoldsThreeEndsToTheirLatestSpec) :=
  OpenClaim.holds_of_wide 4 Try.f4 rfl rfl rfl rfl rfl rfl rfl ⟨rfl, rfl, rfl, rfl, rfl⟩ rfl rfl rfl rfl rfl (by kernel_rfl) Try.func4 (by kernel_rfl)
    (of_decide_eq_true (by kernel_rfl)) (by unfold Func.isWrapper; first | (rw [if_pos (by decide +kernel)]; kernel_rfl) | (rw [if_neg (by decide +kernel)]; exact ⟨rfl, rfl⟩))
    (fun os started H enc _ => lifted os started H enc)

/-- ████ THE STATEMENT ████ -/
theorem proved : Rows.FnLaterEndFoldsThreeEndsToTheirLatestSaid := over
#print axioms proved
end Go.Proofs.Qxb6603640a.fnLaterEndFoldsThreeEndsToTheirLatest
