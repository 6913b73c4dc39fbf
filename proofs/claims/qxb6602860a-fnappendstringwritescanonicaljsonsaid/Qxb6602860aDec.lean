/-
  THE WALKS OF lowerHex AND decodeCanon: at the plain spelling of L ('quoted L') decodeCanon answers L and true, in new memory.
-/
import Derived.Test.Qxb6602860aApp
namespace Go.Proofs.Qxb6602860a
open Go.RowKit

/-- The number of a digit's byte. -/
def digI (x : Nat) : Int := if x < 10 then 48 + (x : Int) else 87 + (x : Int)
theorem hexD_toNat (x : Nat) (h : x < 16) : ((hexD x).toNat : Int) = digI x := by
  unfold hexD digI
  by_cases hx : x < 10
  · rw [if_pos hx, if_pos hx, UInt8.toNat_ofNat']; omega
  · rw [if_neg hx, if_neg hx, UInt8.toNat_ofNat']; omega

set_option maxHeartbeats 400000 in
/-- lowerHex reads a digit. -/
theorem low_any (d : Int) (x : Nat) (hx : x < 16) (hd : d = digI x) (w : World) :
    Calls Try.prog 24 #[.int .u8 d] w fun e w' => e = .returned (.tuple #[.int .i64 x, .bool true]) ∧ w = w' := by
  unfold digI at hd
  by_cases h : x < 10
  · rw [if_pos h] at hd
    have h1 : 48 ≤ d := by omega
    have h2 : d ≤ 57 := by omega
    have HD : Hid (d = 48 + (x : Int)) := hd
    clear hd
    go_enter Try.func24, Try.ntmps24
    go_wp2
    go_ret2
    exact ⟨by rw [HD.out]; go_num, rfl⟩
  · rw [if_neg h] at hd
    have h1 : 97 ≤ d := by omega
    have h2 : d ≤ 102 := by omega
    have HD : Hid (d = 87 + (x : Int)) := hd
    clear hd
    go_enter Try.func24, Try.ntmps24
    go_wp2
    go_ret2
    exact ⟨by rw [HD.out]; go_num, rfl⟩

theorem quoted_split (L : List UInt8) (k : Nat) (hk : k < L.length) : quoted L = (34 :: esc (L.take k)) ++ (escB L[k] ++ (esc (L.drop (k + 1)) ++ [34])) := by
  have e : L = L.take k ++ (L[k] :: L.drop (k + 1)) := by rw [List.getElem_cons_drop, List.take_append_drop]
  have e2 : esc L = esc (L.take k) ++ (escB L[k] ++ esc (L.drop (k + 1))) := by
    conv => lhs; rw [e]
    rw [esc_append]; rfl
  simp [quoted, e2]

/-- The bytes that spell the k-th. -/
theorem quoted_get (L : List UInt8) (k t : Nat) (hk : k < L.length) (ht : t < (escB L[k]).length) : (quoted L).getD ((esc (L.take k)).length + 1 + t) 0 = (escB L[k]).getD t 0 := by
  rw [quoted_split L k hk]
  have e : (34 :: esc (L.take k)).length = (esc (L.take k)).length + 1 := by simp
  simp only [List.getD_eq_getElem?_getD]
  rw [List.getElem?_append_right (by omega), e, show (esc (L.take k)).length + 1 + t - ((esc (L.take k)).length + 1) = t by omega, List.getElem?_append_left ht]

theorem quoted_room (L : List UInt8) (k : Nat) (hk : k < L.length) : (esc (L.take k)).length + (escB L[k]).length ≤ (esc L).length := by
  have := congrArg List.length (quoted_split L k hk)
  simp [quoted_len] at this
  omega

theorem take_step (L : List UInt8) (k : Nat) (hk : k < L.length) : (esc (L.take (k + 1))).length = (esc (L.take k)).length + (escB L[k]).length ∧ L.take (k + 1) = L.take k ++ [L[k]] := by
  rw [List.take_succ_eq_append_getElem hk, esc_append, esc_one]
  simp

/-- What the round at the k-th byte needs: where it stands, the cells that spell the byte, where it goes. -/
structure At (L : List UInt8) (N g off k p : Nat) (w : World) (es : List UInt8) (c : UInt8) : Prop where
  cells : ∀ t (ht : t < es.length), w.cell? ⟨g, off + (p + t), none⟩ = some (.int .u8 es[t].toNat)
  room : p + es.length ≤ N + 1
  next : p + es.length = (esc (L.take (k + 1))).length + 1
  take : L.take (k + 1) = L.take k ++ [c]
  spelt : es = escB c

theorem at_of {L : List UInt8} {N g off k p : Nat} {w wr : World} (hN : (esc L).length = N) (hk : k < L.length) (hp : p = (esc (L.take k)).length + 1)
    (hc : ∀ j, j < N + 2 → w.cell? ⟨g, off + j, none⟩ = some (.int .u8 ((quoted L).getD j 0).toNat)) (hg : g < w.heap.size) (hb : Below w.heap.size w wr) : At L N g off k p wr (escB L[k]) L[k] where
  cells := fun t ht => by
    have h1 := quoted_room L k hk
    rw [hb.cell (p := ⟨g, off + (p + t), none⟩) hg, hc (p + t) (by omega), hp, quoted_get L k t hk ht, List.getD_eq_getElem?_getD, List.getElem?_eq_getElem ht]
    rfl
  room := by have h1 := quoted_room L k hk; omega
  next := by have := (take_step L k hk).1; omega
  take := (take_step L k hk).2
  spelt := rfl

theorem Buf.made {w w' : World} {v : Value} (h : w'.ownsRow w.heap.size 5 1 v 0 []) (hg : w.grownBy w' none) : Buf w.heap.size [] v w w' :=
  ⟨h, (Below.refl _ _).grown hg (Nat.le_refl _) (fun k hk => by cases hk), hg.size⟩

set_option maxHeartbeats 1000000 in
set_option maxRecDepth 100000 in
theorem dec_any (g off cap : Nat) (L : List UInt8) (N : Nat) (w : World) (HN : Hid ((esc L).length = N)) (HL : Hid (L.length ≤ 1048576)) (hg : g < w.heap.size) (hNb : N ≤ 6291456)
    (HC : Hid (∀ j, j < N + 2 → w.cell? ⟨g, off + j, none⟩ = some (.int .u8 ((quoted L).getD j 0).toNat))) :
    Calls Try.prog 12 #[.slice (some ⟨g, off, none⟩) (N + 2) cap] w fun e w' => ∃ v, e = .returned (.tuple #[v, .bool true]) ∧ Buf w.heap.size L v w w' := by
  obtain ⟨i0, hi, hz0, hz1, hz2⟩ := info_parts Try.info5
  have c0 : w.cell? ⟨g, off, none⟩ = some (.int .u8 34) := by have := HC.out 0 (by omega); simpa [quoted] using this
  have c1 : w.cell? ⟨g, off + (N + 1), none⟩ = some (.int .u8 34) := by
    have := HC.out (N + 1) (by omega); rw [this]
    have e : (quoted L).getD (N + 1) 0 = 34 := by simp [quoted, List.getD_eq_getElem?_getD, ← HN.out]
    rw [e]; rfl
  go_enter Try.func12, Try.ntmps12
  go_wp2_with (refine wpList_make_own _ rfl _ _ 22 rfl w.heap.size 5 i0 (.int .u8 0) 1 Try.underlying22 hi hz0 hz1 .i64 .i64 _ (N + 2) rfl rfl (by omega) (by rw [hz2]; omega) (by unfold maxLen; omega) (Nat.le_refl _) ?_; intro w1 hown1 hgrow1)
  have hb1 : Buf w.heap.size [] (.slice (some ⟨w.heap.size, 0, none⟩) 0 (N + 2)) w w1 := Buf.made hown1 hgrow1
  clear hown1 hgrow1 c0 c1
  go_loopw [5, 7] (fun v i wr => ∃ k p : Nat, k ≤ L.length ∧ Hid (p = (esc (L.take k)).length + 1) ∧ p ≤ N + 1 ∧ i = .int .i64 p ∧ Buf w.heap.size (L.take k) v w wr) (fun _ i _ => N + 1 - (intOf i).toNat)
  case atStart => exact ⟨0, 1, Nat.zero_le _, by simp [Hid, esc], by omega, rfl, by simpa using hb1⟩
  case round =>
    obtain ⟨k, p, hk, Hp, hpN, rfl, hb⟩ := hrel
    by_cases hlt : k < L.length
    · have A : At L N g off k p wr (escB L[k]) L[k] := at_of HN.out hlt Hp.out HC.out hg hb.2.1
      obtain ⟨es, hes⟩ : ∃ es, escB L[k] = es := ⟨_, rfl⟩
      obtain ⟨c, hc⟩ : ∃ c, L[k] = c := ⟨_, rfl⟩
      have hlenk : (L.take k).length + 1 ≤ 140737488355328 := by have := HL.out; have : (L.take k).length ≤ L.length := List.length_take_le' _ _; omega
      rw [hes, hc] at A
      rw [hc] at hes
      have HE : Hid (escB c = es) := hes
      clear hes hc
      rcases esc_cases c with hp | hcc
      · have e1 : es = [c] := by rw [← HE.out]; exact escB_plain hp
        subst e1
        have x0 := A.cells 0 (by simp)
        simp only [Nat.add_zero, List.getElem_cons_zero] at x0
        have hr := A.room
        simp only [List.length_cons, List.length_nil] at hr
        simp only [plainB, Bool.and_eq_true, decide_eq_true_eq, Bool.not_eq_true', beq_eq_false_iff_ne] at hp
        have h1 : (32 : Int) ≤ (c.toNat : Int) := by omega
        have h2 : ¬ (c.toNat : Int) = 34 := by omega
        have h2' : ((c.toNat : Int) == 34) = false := by simp; omega
        have h3 : ((c.toNat : Int) != 92) = true := by simp; omega
        clear hp
        go_wp2_with (at_builtin; refine wpList_buf_lit rfl (.tmp 52) (.tmp 54) rfl w.heap.size _ _ w _ [c] _ hb rfl rfl rfl hlenk ?_; intro v2 w2 hb2)
        go_roundw
        case rel => exact ⟨k + 1, p + 1, by omega, by have := A.next; simpa [Hid] using this, by omega, by go_num, by rw [A.take]; exact hb2⟩
        case measure => simp [intOf]; omega
      · rcases hcc with hcc | hcc | hcc | hcc | hcc | hcc | hcc | hcc
        · obtain rfl : c = 34 := UInt8.toNat_inj.1 (by rw [hcc]; rfl)
          obtain rfl : es = [92, 34] := by rw [← HE.out]; rfl
          have x0 : wr.cell? ⟨g, off + p, none⟩ = some (.int .u8 92) := A.cells 0 (by simp)
          have x1 : wr.cell? ⟨g, off + (p + 1), none⟩ = some (.int .u8 34) := A.cells 1 (by simp)
          have hr : p + 2 ≤ N + 1 := A.room
          clear hcc HE
          go_wp2_with (at_builtin; refine wpList_buf_lit rfl (.tmp 71) (.tmp 73) rfl w.heap.size _ _ w _ [34] _ hb rfl rfl rfl hlenk ?_; intro v2 w2 hb2)
          go_roundw
          case rel => exact ⟨k + 1, p + 2, by omega, A.next, by omega, by go_num, by rw [A.take]; exact hb2⟩
          case measure => simp [intOf]; omega
        · obtain rfl : c = 92 := UInt8.toNat_inj.1 (by rw [hcc]; rfl)
          obtain rfl : es = [92, 92] := by rw [← HE.out]; rfl
          have x0 : wr.cell? ⟨g, off + p, none⟩ = some (.int .u8 92) := A.cells 0 (by simp)
          have x1 : wr.cell? ⟨g, off + (p + 1), none⟩ = some (.int .u8 92) := A.cells 1 (by simp)
          have hr : p + 2 ≤ N + 1 := A.room
          clear hcc HE
          go_wp2_with (at_builtin; refine wpList_buf_lit rfl (.tmp 71) (.tmp 73) rfl w.heap.size _ _ w _ [92] _ hb rfl rfl rfl hlenk ?_; intro v2 w2 hb2)
          go_roundw
          case rel => exact ⟨k + 1, p + 2, by omega, A.next, by omega, by go_num, by rw [A.take]; exact hb2⟩
          case measure => simp [intOf]; omega
        · obtain rfl : c = 10 := UInt8.toNat_inj.1 (by rw [hcc]; rfl)
          obtain rfl : es = [92, 110] := by rw [← HE.out]; rfl
          have x0 : wr.cell? ⟨g, off + p, none⟩ = some (.int .u8 92) := A.cells 0 (by simp)
          have x1 : wr.cell? ⟨g, off + (p + 1), none⟩ = some (.int .u8 110) := A.cells 1 (by simp)
          have hr : p + 2 ≤ N + 1 := A.room
          clear hcc HE
          go_wp2_with (at_builtin; refine wpList_buf_lit rfl (.tmp 79) (.tmp 80) rfl w.heap.size _ _ w _ [10] _ hb rfl rfl rfl hlenk ?_; intro v2 w2 hb2)
          go_roundw
          case rel => exact ⟨k + 1, p + 2, by omega, A.next, by omega, by go_num, by rw [A.take]; exact hb2⟩
          case measure => simp [intOf]; omega
        · obtain rfl : c = 13 := UInt8.toNat_inj.1 (by rw [hcc]; rfl)
          obtain rfl : es = [92, 114] := by rw [← HE.out]; rfl
          have x0 : wr.cell? ⟨g, off + p, none⟩ = some (.int .u8 92) := A.cells 0 (by simp)
          have x1 : wr.cell? ⟨g, off + (p + 1), none⟩ = some (.int .u8 114) := A.cells 1 (by simp)
          have hr : p + 2 ≤ N + 1 := A.room
          clear hcc HE
          go_wp2_with (at_builtin; refine wpList_buf_lit rfl (.tmp 86) (.tmp 87) rfl w.heap.size _ _ w _ [13] _ hb rfl rfl rfl hlenk ?_; intro v2 w2 hb2)
          go_roundw
          case rel => exact ⟨k + 1, p + 2, by omega, A.next, by omega, by go_num, by rw [A.take]; exact hb2⟩
          case measure => simp [intOf]; omega
        · obtain rfl : c = 9 := UInt8.toNat_inj.1 (by rw [hcc]; rfl)
          obtain rfl : es = [92, 116] := by rw [← HE.out]; rfl
          have x0 : wr.cell? ⟨g, off + p, none⟩ = some (.int .u8 92) := A.cells 0 (by simp)
          have x1 : wr.cell? ⟨g, off + (p + 1), none⟩ = some (.int .u8 116) := A.cells 1 (by simp)
          have hr : p + 2 ≤ N + 1 := A.room
          clear hcc HE
          go_wp2_with (at_builtin; refine wpList_buf_lit rfl (.tmp 93) (.tmp 94) rfl w.heap.size _ _ w _ [9] _ hb rfl rfl rfl hlenk ?_; intro v2 w2 hb2)
          go_roundw
          case rel => exact ⟨k + 1, p + 2, by omega, A.next, by omega, by go_num, by rw [A.take]; exact hb2⟩
          case measure => simp [intOf]; omega
        · obtain rfl : c = 8 := UInt8.toNat_inj.1 (by rw [hcc]; rfl)
          obtain rfl : es = [92, 98] := by rw [← HE.out]; rfl
          have x0 : wr.cell? ⟨g, off + p, none⟩ = some (.int .u8 92) := A.cells 0 (by simp)
          have x1 : wr.cell? ⟨g, off + (p + 1), none⟩ = some (.int .u8 98) := A.cells 1 (by simp)
          have hr : p + 2 ≤ N + 1 := A.room
          clear hcc HE
          go_wp2_with (at_builtin; refine wpList_buf_lit rfl (.tmp 100) (.tmp 101) rfl w.heap.size _ _ w _ [8] _ hb rfl rfl rfl hlenk ?_; intro v2 w2 hb2)
          go_roundw
          case rel => exact ⟨k + 1, p + 2, by omega, A.next, by omega, by go_num, by rw [A.take]; exact hb2⟩
          case measure => simp [intOf]; omega
        · obtain rfl : c = 12 := UInt8.toNat_inj.1 (by rw [hcc]; rfl)
          obtain rfl : es = [92, 102] := by rw [← HE.out]; rfl
          have x0 : wr.cell? ⟨g, off + p, none⟩ = some (.int .u8 92) := A.cells 0 (by simp)
          have x1 : wr.cell? ⟨g, off + (p + 1), none⟩ = some (.int .u8 102) := A.cells 1 (by simp)
          have hr : p + 2 ≤ N + 1 := A.room
          clear hcc HE
          go_wp2_with (at_builtin; refine wpList_buf_lit rfl (.tmp 107) (.tmp 108) rfl w.heap.size _ _ w _ [12] _ hb rfl rfl rfl hlenk ?_; intro v2 w2 hb2)
          go_roundw
          case rel => exact ⟨k + 1, p + 2, by omega, A.next, by omega, by go_num, by rw [A.take]; exact hb2⟩
          case measure => simp [intOf]; omega
        · obtain ⟨h1, h2, h3, h4, h5, h6, h7, h8⟩ := hcc
          obtain ⟨y1, hy1⟩ : ∃ y, c.toNat / 16 = y := ⟨_, rfl⟩
          obtain ⟨y2, hy2⟩ : ∃ y, c.toNat % 16 = y := ⟨_, rfl⟩
          have e1 : escB c = [92, 117, 48, 48, hexD y1, hexD y2] := by
            have a1 : plainB c = false := by simp [plainB]; omega
            simp only [escB, a1, hy1, hy2]
            simp (disch := omega) only [if_neg, Bool.false_eq_true, if_false]
          obtain rfl : es = [92, 117, 48, 48, hexD y1, hexD y2] := by rw [← HE.out]; exact e1
          have x0 : wr.cell? ⟨g, off + p, none⟩ = some (.int .u8 92) := A.cells 0 (by simp)
          have x1 : wr.cell? ⟨g, off + (p + 1), none⟩ = some (.int .u8 117) := A.cells 1 (by simp)
          have x2 : wr.cell? ⟨g, off + (p + 2), none⟩ = some (.int .u8 48) := A.cells 2 (by simp)
          have x3 : wr.cell? ⟨g, off + (p + 3), none⟩ = some (.int .u8 48) := A.cells 3 (by simp)
          have x4 : wr.cell? ⟨g, off + (p + 4), none⟩ = some (.int .u8 (digI y1)) := by rw [← hexD_toNat y1 (by omega)]; exact A.cells 4 (by simp)
          have x5 : wr.cell? ⟨g, off + (p + 5), none⟩ = some (.int .u8 (digI y2)) := by rw [← hexD_toNat y2 (by omega)]; exact A.cells 5 (by simp)
          have hr : p + 6 ≤ N + 1 := A.room
          have hy1b : y1 < 16 := by omega
          have hy2b : y2 < 16 := by omega
          have hv : c.toNat = y1 * 16 + y2 := by omega
          have v1 : (y1 : Int) * 16 + (y2 : Int) < 32 := by omega
          have v2 : ((y1 : Int) * 16 + (y2 : Int) == 10) = false := by simp; omega
          have v3 : ((y1 : Int) * 16 + (y2 : Int) == 13) = false := by simp; omega
          have v4 : ((y1 : Int) * 16 + (y2 : Int) == 9) = false := by simp; omega
          have v5 : ((y1 : Int) * 16 + (y2 : Int) == 8) = false := by simp; omega
          have v6 : ((y1 : Int) * 16 + (y2 : Int) == 12) = false := by simp; omega
          have v2' : ¬ ((y1 : Int) * 16 + (y2 : Int) = 10) := by omega
          have v3' : ¬ ((y1 : Int) * 16 + (y2 : Int) = 13) := by omega
          have v4' : ¬ ((y1 : Int) * 16 + (y2 : Int) = 9) := by omega
          have v5' : ¬ ((y1 : Int) * 16 + (y2 : Int) = 8) := by omega
          have v6' : ¬ ((y1 : Int) * 16 + (y2 : Int) = 12) := by omega
          have HV : Hid ((#[Value.int .u8 ((y1 : Int) * 16 + (y2 : Int))]).toList = bc [c]) := by simp [Hid, bc]; omega
          clear h1 h2 h3 h4 h5 h6 h7 h8 hy1 hy2 e1 HE hv
          go_wp2_with (first | (go_at_call_of 24 (digI y1); refine (low_any _ y1 hy1b rfl _).mono ?_; rintro e w' ⟨rfl, rfl⟩) | (go_at_call_of 24 (digI y2); refine (low_any _ y2 hy2b rfl _).mono ?_; rintro e w' ⟨rfl, rfl⟩) | (at_builtin; refine wpList_buf_lit rfl (.tmp 182) (.tmp 185) rfl w.heap.size _ _ w _ [c] _ hb rfl rfl HV.out hlenk ?_; intro v2 w2 hb2))
          go_roundw
          case rel => exact ⟨k + 1, p + 6, by omega, A.next, by omega, by go_num, by rw [A.take]; exact hb2⟩
          case measure => simp [intOf]; omega
    · obtain rfl : k = L.length := by omega
      have hpe : p = N + 1 := by have := Hp.out; have := HN.out; rw [List.take_length] at *; omega
      subst hpe
      go_wp2
      go_ret2
      exact ⟨_, rfl, by rw [List.take_length] at hb; exact hb⟩
end Go.Proofs.Qxb6602860a
