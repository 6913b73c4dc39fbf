/-
  THE WALK OF tuple.appendString: onto a slice without spare room (nil; a fresh copy): the bytes that it held, then the plain spelling of s ('quoted', Qxb6602860aEsc), in new memory.
-/
import Derived.Test.Qxb6602860aBuf
import Derived.Laws.BitsLemmas
namespace Go.Proofs.Qxb6602860a
open Go.RowKit

section
variable {ops : Array Oper} {rest : List Oper} {o : Oper} {a : Act} {Q : Exit → Act → World → Prop} {K : Act → World → Prop} {E : Prop}
/-- The first append: the slice that came in has no spare room. -/
theorem wpList_buf_first (hgd : o.guard = none) (s x : Operand)
    (ho : o.op = .call { callee := .builtin .append, args := #[s, x], argTypes := #[22, 22] })
    (ao : Option Addr) (l0 : List UInt8) (w : World) (news : List UInt8) (arr : Array Value) (hs : a.eval s = .slice ao l0.length l0.length) (hnone : ao = none → l0.length = 0)
    (hold : ∀ b, ao = some b → ∀ j u, (bc l0)[j]? = some u → w.cell? (b.add j) = some u)
    (hx : a.eval x = .slice (some ⟨w.heap.size, 0, none⟩) news.length news.length) (harr : arr.toList = bc news) (hpos : 0 < news.length)
    (hlen : l0.length + news.length ≤ 140737488355328)
    (h : ∀ v' w', Buf w.heap.size (l0 ++ news) v' w w' → wpList Try.prog ops Q rest (a.put o.dst v') w') : wpList Try.prog ops Q (o :: rest) a (w.alloc (.cells arr 5)) := by
  obtain ⟨i0, hi, hz0, hz1, hz2⟩ := info_parts Try.info5
  refine wpList_append_grows _ hgd s x 22 ho 5 i0 (.int .u8 0) 1 1 Try.underlying22 hi hz0 hz1 hz2 rfl (by decide) ao l0.length l0.length (bc l0) hs (fun h => ⟨hnone h, hnone h⟩) (by rw [bc_length]; omega) ?_ ⟨w.heap.size, 0, none⟩ news.length news.length (bc news) hx (by rw [bc_length]; omega) (lit_cells w arr news harr) (bc_one news) (by omega) (by unfold maxLen; omega) (by omega) ?_
  · intro b hb j u hj
    exact cell_later ((Below.refl _ _).alloc (Nat.le_refl _) _) (hold b hb j u hj)
  · intro v' w' ho' hg
    refine h v' w' ⟨?_, ?_, ?_⟩
    · rw [List.length_append, bc_append]; exact ownsRow_base ho' (by simp)
    · exact ((Below.refl _ _).alloc (Nat.le_refl _) _).grown hg (by simp) (fun k hk => by cases hk)
    · have := hg.size; simp at this; omega
end

theorem ext_data (s : ByteArray) (i j : Nat) : (s.extract i j).data.toList = (s.data.toList.take j).drop i := by
  simp [List.drop_take]

theorem esc_step {L : List UInt8} {st k : Nat} (h : esc (L.take k) = esc (L.take st) ++ (L.take k).drop st) (hk : k < L.length) :
    esc (L.take (k + 1)) = esc (L.take st) ++ (L.take k).drop st ++ escB L[k] := by
  rw [List.take_succ_eq_append_getElem hk, esc_append, esc_one, h]

theorem plain_step {L : List UInt8} {st k : Nat} (h : esc (L.take k) = esc (L.take st) ++ (L.take k).drop st) (hk : k < L.length) (hst : st ≤ k) (hp : plainB L[k] = true) :
    esc (L.take (k + 1)) = esc (L.take st) ++ (L.take (k + 1)).drop st := by
  rw [esc_step h hk, escB_plain hp, List.take_succ_eq_append_getElem hk, List.drop_append_of_le_length (by simp; omega), List.append_assoc]

theorem esc_take_len (L : List UInt8) (k : Nat) : (esc (L.take k)).length ≤ 6 * L.length := by
  have h := (esc_len (L.take k)).2
  have h2 : (L.take k).length ≤ L.length := List.length_take_le' _ _
  omega

theorem esc_cases (c : UInt8) : plainB c = true ∨ c.toNat = 34 ∨ c.toNat = 92 ∨ c.toNat = 10 ∨ c.toNat = 13 ∨ c.toNat = 9 ∨ c.toNat = 8 ∨ c.toNat = 12 ∨
    (c.toNat < 32 ∧ c.toNat ≠ 34 ∧ c.toNat ≠ 92 ∧ c.toNat ≠ 10 ∧ c.toNat ≠ 13 ∧ c.toNat ≠ 9 ∧ c.toNat ≠ 8 ∧ c.toNat ≠ 12) := by
  simp only [plainB, Bool.and_eq_true, decide_eq_true_eq, Bool.not_eq_true', beq_eq_false_iff_ne]
  omega

theorem getL (s : ByteArray) (k : Nat) (h : k < s.size) (h' : k < s.data.toList.length) : s.data.toList[k]'h' = s[k]'h := rfl

theorem rel_esc {B : Nat} {l0 L es es' : List UInt8} {j k : Nat} {v : Value} {w wr : World} (hb : Buf B (l0 ++ 34 :: esc (L.take j) ++ (L.take k).drop j ++ es) v w wr)
    (HS : esc (L.take (k + 1)) = esc (L.take j) ++ (L.take k).drop j ++ es') (he : es' = es) :
    Buf B (l0 ++ 34 :: esc (L.take (k + 1))) v w wr ∧ Hid (esc (L.take (k + 1)) = esc (L.take (k + 1)) ++ (L.take (k + 1)).drop (k + 1)) := by
  subst he
  constructor
  · rw [HS]; simpa using hb
  · show _ = _
    rw [List.drop_eq_nil_of_le (List.length_take_le _ _), List.append_nil]

theorem rel_last {l0 L : List UInt8} {j n : Nat} (HL : L.length = n) (HE : esc (L.take n) = esc (L.take j) ++ (L.take n).drop j) :
    l0 ++ quoted L = l0 ++ 34 :: esc (L.take j) ++ (L.take n).drop j ++ [34] := by
  have : L.take n = L := List.take_of_length_le (by omega)
  rw [this] at HE ⊢
  simp [quoted, HE]

/-- The hex digits' table, as the program has it. -/
theorem hex_at (x : Nat) (h : x < (ByteArray.mk #[48, 49, 50, 51, 52, 53, 54, 55, 56, 57, 97, 98, 99, 100, 101, 102]).size) :
    (ByteArray.mk #[48, 49, 50, 51, 52, 53, 54, 55, 56, 57, 97, 98, 99, 100, 101, 102])[x] = hexD x := by
  exact match x, h with
  | 0, _ => rfl
  | 1, _ => rfl
  | 2, _ => rfl
  | 3, _ => rfl
  | 4, _ => rfl
  | 5, _ => rfl
  | 6, _ => rfl
  | 7, _ => rfl
  | 8, _ => rfl
  | 9, _ => rfl
  | 10, _ => rfl
  | 11, _ => rfl
  | 12, _ => rfl
  | 13, _ => rfl
  | 14, _ => rfl
  | 15, _ => rfl
  | (x + 16), h => absurd h (by show ¬ x + 16 < 16; omega)

theorem hex_arr (c : Nat) (p1 : ((c : Int) / 16).toNat < (ByteArray.mk #[48, 49, 50, 51, 52, 53, 54, 55, 56, 57, 97, 98, 99, 100, 101, 102]).size) (p2 : ((c : Int) % 16).toNat < (ByteArray.mk #[48, 49, 50, 51, 52, 53, 54, 55, 56, 57, 97, 98, 99, 100, 101, 102]).size) :
    (#[Value.int .u8 92, .int .u8 117, .int .u8 48, .int .u8 48, .int .u8 ((ByteArray.mk #[48, 49, 50, 51, 52, 53, 54, 55, 56, 57, 97, 98, 99, 100, 101, 102])[((c : Int) / 16).toNat]'p1).toNat,
      .int .u8 ((ByteArray.mk #[48, 49, 50, 51, 52, 53, 54, 55, 56, 57, 97, 98, 99, 100, 101, 102])[((c : Int) % 16).toNat]'p2).toNat]).toList = bc [92, 117, 48, 48, hexD (c / 16), hexD (c % 16)] := by
  rw [hex_at _ p1, hex_at _ p2]
  have e1 : ((c : Int) / 16).toNat = c / 16 := by omega
  have e2 : ((c : Int) % 16).toNat = c % 16 := by omega
  rw [e1, e2]
  rfl

set_option maxHeartbeats 1000000 in
theorem app_any (ao : Option Addr) (l0 : List UInt8) (s : ByteArray) (w : World) (hnone : ao = none → l0.length = 0)
    (hold : ∀ b, ao = some b → ∀ j u, (bc l0)[j]? = some u → w.cell? (b.add j) = some u)
    (hl0 : l0.length ≤ 1048576) (hs : s.size ≤ 1048576) :
    Calls Try.prog 23 #[.slice ao l0.length l0.length, .string s] w fun e w' => ∃ v, e = .returned v ∧ Buf w.heap.size (l0 ++ quoted s.data.toList) v w w' := by
  have HL : Hid (s.data.toList.length = s.size) := by show _ = _; rw [Array.length_toList]; rfl
  have hb0 : l0.length + 1 ≤ 140737488355328 := by omega
  go_enter Try.func23, Try.ntmps23
  go_wp2_with (at_builtin; refine wpList_buf_first rfl _ _ rfl ao l0 w [34] _ rfl hnone hold rfl rfl (by decide) hb0 ?_; intro v1 w1 hb1)
  go_loopw [0, 5, 6] (fun v st i wr => ∃ j k : Nat, j ≤ k ∧ k ≤ s.size ∧ st = .int .i64 j ∧ i = .int .i64 k ∧ Buf w.heap.size (l0 ++ 34 :: esc (s.data.toList.take j)) v w wr ∧ Hid (esc (s.data.toList.take k) = esc (s.data.toList.take j) ++ (s.data.toList.take k).drop j))
    (fun _ _ i _ => s.size - (intOf i).toNat)
  case atStart => exact ⟨0, 0, Nat.le_refl _, Nat.zero_le _, rfl, rfl, by simpa [esc] using hb1, by simp [Hid, esc]⟩
  case round =>
    obtain ⟨j, k, hjk, hk, rfl, rfl, hb, HE⟩ := hrel
    have hbd1 : (l0 ++ 34 :: esc (s.data.toList.take j)).length + ((s.data.toList.take k).drop j).length ≤ 140737488355328 := by
      have := esc_take_len s.data.toList j; have := HL.out
      simp only [List.length_append, List.length_cons, List.length_drop, List.length_take]; omega
    have hbd2 : ((l0 ++ 34 :: esc (s.data.toList.take j)) ++ ((s.data.toList.take k).drop j)).length + 6 ≤ 140737488355328 := by
      have := esc_take_len s.data.toList j; have := HL.out
      simp only [List.length_append, List.length_cons, List.length_drop, List.length_take]; omega
    by_cases hlt : k < s.size
    · have hk' : k < s.data.toList.length := by rw [HL.out]; exact hlt
      have HS := esc_step HE.out hk'
      rw [getL s k hlt hk'] at HS
      have HS' : Hid _ := HS
      clear HS
      rcases esc_cases s[k] with hp | hc
      · have HP : Hid _ := plain_step HE.out hk' hjk hp
        simp only [plainB, Bool.and_eq_true, decide_eq_true_eq, Bool.not_eq_true', beq_eq_false_iff_ne] at hp
        have h1 : (32 : Int) ≤ (s[k].toNat : Int) := by omega
        have h2 : ((s[k].toNat : Int) != 34) = true := by simp; omega
        have h3 : ((s[k].toNat : Int) != 92) = true := by simp; omega
        have h4 : ¬ (s[k].toNat : Int) = 34 := by omega
        have h5 : ¬ (s[k].toNat : Int) = 92 := by omega
        clear hp
        go_wp2
        go_roundw
        case rel => exact ⟨j, k + 1, by omega, by omega, rfl, by go_num, hb, HP⟩
        case measure => simp [intOf]; omega
      · have Hn : Hid ((s.extract j k).data.toList = (s.data.toList.take k).drop j) := ext_data s j k
        rcases hc with hc | hc | hc | hc | hc | hc | hc | hc
        · have hcI : (s[k].toNat : Int) = 34 := by omega
          have he : escB s[k] = [92, 34] := by simp [escB, plainB, hc]
          have He : Hid _ := he
          clear he
          go_wp2_with (at_builtin; first | (refine wpList_buf_str rfl (.tmp 30) (.tmp 34) rfl w.heap.size _ _ w _ _ _ hb rfl rfl Hn.out hbd1 ?_; intro v2 w2 hb2) | (refine wpList_buf_lit rfl (.tmp 51) (.tmp 53) rfl w.heap.size _ _ w _ [92, 34] _ hb2 rfl rfl rfl (Nat.le_trans (Nat.add_le_add_left (by decide) _) hbd2) ?_; intro v3 w3 hb3))
          have R := rel_esc hb3 HS'.out He.out
          go_roundw
          case rel => exact ⟨k + 1, k + 1, by omega, by omega, by go_num, by go_num, R.1, R.2⟩
          case measure => simp [intOf]; omega
        · have hcI : (s[k].toNat : Int) = 92 := by omega
          have he : escB s[k] = [92, 92] := by simp [escB, plainB, hc]
          have He : Hid _ := he
          clear he
          go_wp2_with (at_builtin; first | (refine wpList_buf_str rfl (.tmp 30) (.tmp 34) rfl w.heap.size _ _ w _ _ _ hb rfl rfl Hn.out hbd1 ?_; intro v2 w2 hb2) | (refine wpList_buf_lit rfl (.tmp 51) (.tmp 53) rfl w.heap.size _ _ w _ [92, 92] _ hb2 rfl rfl rfl (Nat.le_trans (Nat.add_le_add_left (by decide) _) hbd2) ?_; intro v3 w3 hb3))
          have R := rel_esc hb3 HS'.out He.out
          go_roundw
          case rel => exact ⟨k + 1, k + 1, by omega, by omega, by go_num, by go_num, R.1, R.2⟩
          case measure => simp [intOf]; omega
        · have hcI : (s[k].toNat : Int) = 10 := by omega
          have he : escB s[k] = [92, 110] := by simp [escB, plainB, hc]
          have He : Hid _ := he
          clear he
          go_wp2_with (at_builtin; first | (refine wpList_buf_str rfl (.tmp 30) (.tmp 34) rfl w.heap.size _ _ w _ _ _ hb rfl rfl Hn.out hbd1 ?_; intro v2 w2 hb2) | (refine wpList_buf_str rfl (.tmp 57) _ rfl w.heap.size _ _ w _ _ [92, 110] hb2 rfl rfl rfl (Nat.le_trans (Nat.add_le_add_left (by decide) _) hbd2) ?_; intro v3 w3 hb3))
          have R := rel_esc hb3 HS'.out He.out
          go_roundw
          case rel => exact ⟨k + 1, k + 1, by omega, by omega, by go_num, by go_num, R.1, R.2⟩
          case measure => simp [intOf]; omega
        · have hcI : (s[k].toNat : Int) = 13 := by omega
          have he : escB s[k] = [92, 114] := by simp [escB, plainB, hc]
          have He : Hid _ := he
          clear he
          go_wp2_with (at_builtin; first | (refine wpList_buf_str rfl (.tmp 30) (.tmp 34) rfl w.heap.size _ _ w _ _ _ hb rfl rfl Hn.out hbd1 ?_; intro v2 w2 hb2) | (refine wpList_buf_str rfl (.tmp 61) _ rfl w.heap.size _ _ w _ _ [92, 114] hb2 rfl rfl rfl (Nat.le_trans (Nat.add_le_add_left (by decide) _) hbd2) ?_; intro v3 w3 hb3))
          have R := rel_esc hb3 HS'.out He.out
          go_roundw
          case rel => exact ⟨k + 1, k + 1, by omega, by omega, by go_num, by go_num, R.1, R.2⟩
          case measure => simp [intOf]; omega
        · have hcI : (s[k].toNat : Int) = 9 := by omega
          have he : escB s[k] = [92, 116] := by simp [escB, plainB, hc]
          have He : Hid _ := he
          clear he
          go_wp2_with (at_builtin; first | (refine wpList_buf_str rfl (.tmp 30) (.tmp 34) rfl w.heap.size _ _ w _ _ _ hb rfl rfl Hn.out hbd1 ?_; intro v2 w2 hb2) | (refine wpList_buf_str rfl (.tmp 65) _ rfl w.heap.size _ _ w _ _ [92, 116] hb2 rfl rfl rfl (Nat.le_trans (Nat.add_le_add_left (by decide) _) hbd2) ?_; intro v3 w3 hb3))
          have R := rel_esc hb3 HS'.out He.out
          go_roundw
          case rel => exact ⟨k + 1, k + 1, by omega, by omega, by go_num, by go_num, R.1, R.2⟩
          case measure => simp [intOf]; omega
        · have hcI : (s[k].toNat : Int) = 8 := by omega
          have he : escB s[k] = [92, 98] := by simp [escB, plainB, hc]
          have He : Hid _ := he
          clear he
          go_wp2_with (at_builtin; first | (refine wpList_buf_str rfl (.tmp 30) (.tmp 34) rfl w.heap.size _ _ w _ _ _ hb rfl rfl Hn.out hbd1 ?_; intro v2 w2 hb2) | (refine wpList_buf_str rfl (.tmp 69) _ rfl w.heap.size _ _ w _ _ [92, 98] hb2 rfl rfl rfl (Nat.le_trans (Nat.add_le_add_left (by decide) _) hbd2) ?_; intro v3 w3 hb3))
          have R := rel_esc hb3 HS'.out He.out
          go_roundw
          case rel => exact ⟨k + 1, k + 1, by omega, by omega, by go_num, by go_num, R.1, R.2⟩
          case measure => simp [intOf]; omega
        · have hcI : (s[k].toNat : Int) = 12 := by omega
          have he : escB s[k] = [92, 102] := by simp [escB, plainB, hc]
          have He : Hid _ := he
          clear he
          go_wp2_with (at_builtin; first | (refine wpList_buf_str rfl (.tmp 30) (.tmp 34) rfl w.heap.size _ _ w _ _ _ hb rfl rfl Hn.out hbd1 ?_; intro v2 w2 hb2) | (refine wpList_buf_str rfl (.tmp 73) _ rfl w.heap.size _ _ w _ _ [92, 102] hb2 rfl rfl rfl (Nat.le_trans (Nat.add_le_add_left (by decide) _) hbd2) ?_; intro v3 w3 hb3))
          have R := rel_esc hb3 HS'.out He.out
          go_roundw
          case rel => exact ⟨k + 1, k + 1, by omega, by omega, by go_num, by go_num, R.1, R.2⟩
          case measure => simp [intOf]; omega
        · obtain ⟨h1, h2, h3, h4, h5, h6, h7, h8⟩ := hc
          have g1 : (s[k].toNat : Int) < 32 := by omega
          have g4 : ¬ (s[k].toNat : Int) = 10 := by omega
          have g5 : ¬ (s[k].toNat : Int) = 13 := by omega
          have g6 : ¬ (s[k].toNat : Int) = 9 := by omega
          have g7 : ¬ (s[k].toNat : Int) = 8 := by omega
          have g8 : ¬ (s[k].toNat : Int) = 12 := by omega
          clear h1 h2 h3 h4 h5 h6 h7 h8
          go_wp2_with (at_builtin; first | (refine wpList_buf_str rfl (.tmp 30) (.tmp 34) rfl w.heap.size _ _ w _ _ _ hb rfl rfl Hn.out hbd1 ?_; intro v2 w2 hb2))
          have he : escB s[k] = [92, 117, 48, 48, hexD (s[k].toNat / 16), hexD (s[k].toNat % 16)] := by
            have a1 : plainB s[k] = false := by simp [plainB]; omega
            simp only [escB, a1]
            simp (disch := omega) only [if_neg, Bool.false_eq_true, if_false]
          have He : Hid _ := he
          clear he
          have q1 : (0 : Int) ≤ (s[k].toNat : Int) / 16 ∧ (s[k].toNat : Int) / 16 < 16 := by omega
          have q2 : (0 : Int) ≤ (s[k].toNat : Int) % 16 ∧ (s[k].toNat : Int) % 16 < 16 := by omega
          have q3 : bits BinOp.and IntKind.u8 (s[k].toNat : Int) 15 = (s[k].toNat : Int) % 16 := u8_and15 _ (by omega) (by omega)
          go_region_law (refine step_buf_lit rfl (.tmp 39) (.tmp 46) rfl w.heap.size _ _ w _ [92, 117, 48, 48, hexD (s[k].toNat / 16), hexD (s[k].toNat % 16)] _ hb2.drew (by simp [Act.eval]) (by simp [Act.eval]) (hex_arr _ _ _) hbd2 ?_; intro v3 w3 hb3)
          all_goals
            have R := rel_esc hb3 HS'.out He.out
            go_wp2
            go_roundw
            case rel => exact ⟨k + 1, k + 1, by omega, by omega, by go_num, by go_num, R.1, R.2⟩
            case measure => simp [intOf]; omega
    · obtain rfl : k = s.size := by omega
      have hn : (s.extract j s.size).data.toList = (s.data.toList.take s.size).drop j := ext_data s j s.size
      have Hn : Hid _ := hn
      clear hn
      go_wp2_with (at_builtin; first | (refine wpList_buf_str rfl (.tmp 75) (.tmp 78) rfl w.heap.size _ _ w _ _ _ hb rfl rfl Hn.out hbd1 ?_; intro v2 w2 hb2) | (refine wpList_buf_lit rfl (.tmp 80) (.tmp 81) rfl w.heap.size _ _ w _ [34] _ hb2 rfl rfl rfl (Nat.le_trans (Nat.add_le_add_left (by decide) _) hbd2) ?_; intro v3 w3 hb3))
      go_ret
      refine ⟨_, rfl, ?_⟩
      rw [rel_last HL.out HE.out]
      exact hb3

set_option maxHeartbeats 400000 in
/-- tuple.ZZAppendString is tuple.appendString. -/
theorem zz_any (ao : Option Addr) (l0 : List UInt8) (s : ByteArray) (w : World) (hnone : ao = none → l0.length = 0)
    (hold : ∀ b, ao = some b → ∀ j u, (bc l0)[j]? = some u → w.cell? (b.add j) = some u)
    (hl0 : l0.length ≤ 1048576) (hs : s.size ≤ 1048576) :
    Calls Try.prog 11 #[.slice ao l0.length l0.length, .string s] w fun e w' => ∃ v, e = .returned v ∧ Buf w.heap.size (l0 ++ quoted s.data.toList) v w w' := by
  go_enter Try.func11, Try.ntmps11
  go_wp2_with (go_at_call 23; refine (app_any ao l0 s _ hnone hold hl0 hs).mono ?_; rintro e w1 ⟨v, rfl, hb⟩)
  go_ret
  exact ⟨v, rfl, hb⟩

/-- Onto nil. -/
theorem zz_nil (s : ByteArray) (w : World) (hs : s.size ≤ 1048576) :
    Calls Try.prog 11 #[.slice none 0 0, .string s] w fun e w' => ∃ v, e = .returned v ∧ Buf w.heap.size (quoted s.data.toList) v w w' :=
  zz_any none [] s w (fun _ => rfl) (fun _ h => by cases h) (by decide) hs

end Go.Proofs.Qxb6602860a
