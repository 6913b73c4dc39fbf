/-
  A BUFFER OF BYTES THAT A CALL OWNS, carried from append to append: one predicate, a law for each kind of append.
-/
import Derived.Test.Qxb6602860aRows
import Derived.Test.Qxb6602860aEsc
import Derived.WalkKit
import Derived.WalkSpells
import Derived.WalkLawsBesides
import Derived.ArgAppend
import Derived.Deep.RegionLaw
import Derived.Lib.AppendStr
namespace Go.Proofs.Qxb6602860a
open Go.RowKit

theorem Try.info5 : (Try.prog.info? 5).map (fun i => (i.zero, i.size, i.bytes)) = some (some (.int .u8 0), 1, 1) := by kernel_rfl

/-- Bytes as cells. -/
def bc (l : List UInt8) : List Value := l.map fun b => Value.int .u8 b.toNat
theorem bc_length (l : List UInt8) : (bc l).length = l.length := by simp [bc]
theorem bc_append (a b : List UInt8) : bc (a ++ b) = bc a ++ bc b := by simp [bc]
theorem bc_one (l : List UInt8) : ∀ u ∈ bc l, u.oneCell' = true := by
  intro u hu
  simp only [bc, List.mem_map] at hu
  obtain ⟨b, _, rfl⟩ := hu
  rfl
theorem bc_strCells (s : ByteArray) : Lib.strCells s = bc s.data.toList := rfl

/-- In w the slice v owns a row that begins with the bytes l, in a block from B on; of what lay below B in W0 nothing has turned. -/
def Buf (B : Nat) (l : List UInt8) (v : Value) (W0 w : World) : Prop := w.ownsRow B 5 1 v l.length (bc l) ∧ Below B W0 w ∧ B ≤ w.heap.size

theorem ownsRow_base {w : World} {B B' : Nat} {e : TypeId} {size : Nat} {v : Value} {n : Nat} {xs : List Value} (h : w.ownsRow B e size v n xs) (hB : B' ≤ B) : w.ownsRow B' e size v n xs := by
  refine ⟨h.1, ?_⟩
  rcases h.2 with h2 | ⟨g, cap, cur, hv, hg, r⟩
  · exact .inl h2
  · exact .inr ⟨g, cap, cur, hv, Nat.le_trans hB hg, r⟩

theorem Buf.alloc {B : Nat} {l : List UInt8} {v : Value} {W0 w : World} (h : Buf B l v W0 w) (o : Obj) : Buf B l v W0 (w.alloc o) :=
  ⟨h.1.alloc o, h.2.1.alloc h.2.2 o, Nat.le_trans h.2.2 ((Below.refl 0 w).alloc (Nat.zero_le _) o).size⟩

theorem Buf.drew {B : Nat} {l : List UInt8} {v : Value} {W0 w : World} (h : Buf B l v W0 w) : Buf B l v W0 w.drew :=
  ⟨h.1.drew, h.2.1.drew, h.2.2⟩

theorem Buf.grown {B : Nat} {l l' : List UInt8} {v v' : Value} {W0 w w' : World} (h : Buf B l v W0 w) (ho : w'.ownsRow B 5 1 v' l'.length (bc l')) (hg : w.grownBy w' v.ownBlock) : Buf B l' v' W0 w' :=
  ⟨ho, h.2.1.grown hg h.2.2 (fun k hk => (h.1.lt k hk).1), Nat.le_trans h.2.2 hg.size⟩

/-- The cells of a block that has just been laid. -/
theorem lit_cells (w : World) (arr : Array Value) (news : List UInt8) (harr : arr.toList = bc news) : ∀ j u, (bc news)[j]? = some u → (w.alloc (.cells arr 5)).cell? ((⟨w.heap.size, 0, none⟩ : Addr).add j) = some u := by
  intro j u hj
  have hadd : (⟨w.heap.size, 0, none⟩ : Addr).add j = ⟨w.heap.size, j, none⟩ := by unfold Addr.add; split <;> simp_all
  rw [hadd, cell_of_row (w.alloc (.cells arr 5)) w.heap.size j arr 5 (0, 0) (heap_alloc_new w _)]
  rw [← harr] at hj
  simpa using hj

section
variable {ops : Array Oper} {rest : List Oper} {o : Oper} {a : Act} {Q : Exit → Act → World → Prop} {K : Act → World → Prop} {E : Prop}

/-- 'b = append(b, x1, .. xm)': the new bytes lie in the block that the statement has just laid. -/
theorem wp_buf_lit (s x : Operand)
    (ho : o.op = .call { callee := .builtin .append, args := #[s, x], argTypes := #[22, 22] })
    (B : Nat) (l : List UInt8) (v : Value) (W0 w0 : World) (news : List UInt8) (arr : Array Value) (hb : Buf B l v W0 w0) (hs : a.eval s = v)
    (hx : a.eval x = .slice (some ⟨w0.heap.size, 0, none⟩) news.length news.length) (harr : arr.toList = bc news)
    (hlen : l.length + news.length ≤ 140737488355328)
    (h : ∀ v' w', Buf B (l ++ news) v' W0 w' → K (a.put o.dst v') w') : o.wp Try.prog a (w0.alloc (.cells arr 5)) K Q := by
  obtain ⟨i0, hi, hz0, hz1, hz2⟩ := info_parts Try.info5
  have hb' := hb.alloc (.cells arr 5)
  refine wp_append_own _ s x 22 ho B 5 i0 (.int .u8 0) 1 1 Try.underlying22 hi hz0 hz1 hz2 rfl (by decide) v l.length (bc l) hs hb'.1 ⟨w0.heap.size, 0, none⟩ news.length news.length (bc news) hx (by rw [bc_length]; omega) (lit_cells w0 arr news harr) (bc_one news) (by unfold maxLen; omega) (by omega) hb'.2.2 ?_
  intro v' w' ho' hg _
  exact h v' w' (hb'.grown (by rw [List.length_append, bc_append]; exact ho') hg)

theorem wpList_buf_lit (hgd : o.guard = none) (s x : Operand)
    (ho : o.op = .call { callee := .builtin .append, args := #[s, x], argTypes := #[22, 22] })
    (B : Nat) (l : List UInt8) (v : Value) (W0 w0 : World) (news : List UInt8) (arr : Array Value) (hb : Buf B l v W0 w0) (hs : a.eval s = v)
    (hx : a.eval x = .slice (some ⟨w0.heap.size, 0, none⟩) news.length news.length) (harr : arr.toList = bc news)
    (hlen : l.length + news.length ≤ 140737488355328)
    (h : ∀ v' w', Buf B (l ++ news) v' W0 w' → wpList Try.prog ops Q rest (a.put o.dst v') w') : wpList Try.prog ops Q (o :: rest) a (w0.alloc (.cells arr 5)) :=
  wpList_plain hgd fun _ hK => wp_buf_lit s x ho B l v W0 w0 news arr hb hs hx harr hlen fun v' w' hb' => hK _ _ (h v' w' hb')

/-- The same at a step of a region that draws its order. -/
theorem step_buf_lit (hgd : o.guard = none) (s x : Operand)
    (ho : o.op = .call { callee := .builtin .append, args := #[s, x], argTypes := #[22, 22] })
    (B : Nat) (l : List UInt8) (v : Value) (W0 w0 : World) (news : List UInt8) (arr : Array Value) (hb : Buf B l v W0 w0) (hs : a.eval s = v)
    (hx : a.eval x = .slice (some ⟨w0.heap.size, 0, none⟩) news.length news.length) (harr : arr.toList = bc news)
    (hlen : l.length + news.length ≤ 140737488355328)
    (h : ∀ v' w', Buf B (l ++ news) v' W0 w' → K (a.put o.dst v') w') :
    if Region.wanted o (yielded ops a.tmps) = true then Oper.wp Try.prog o a (w0.alloc (.cells arr 5)) K Q else E := by
  have hw : Region.wanted o (yielded ops a.tmps) = true := by simp [Region.wanted, hgd]
  rw [if_pos hw]
  exact wp_buf_lit s x ho B l v W0 w0 news arr hb hs hx harr hlen h

/-- 'b = append(b, s...)': a string's bytes. -/
theorem wpList_buf_str (hgd : o.guard = none) (sl x : Operand)
    (ho : o.op = .call { callee := .builtin .append, args := #[sl, x], argTypes := #[22, 9] })
    (B : Nat) (l : List UInt8) (v : Value) (W0 w : World) (s : ByteArray) (news : List UInt8) (hb : Buf B l v W0 w) (hs : a.eval sl = v)
    (hx : a.eval x = .string s) (hnews : s.data.toList = news) (hlen : l.length + news.length ≤ 140737488355328)
    (h : ∀ v' w', Buf B (l ++ news) v' W0 w' → wpList Try.prog ops Q rest (a.put o.dst v') w') : wpList Try.prog ops Q (o :: rest) a w := by
  obtain ⟨i0, hi, hz0, hz1, hz2⟩ := info_parts Try.info5
  have hsz : s.size = news.length := by rw [← hnews, Array.length_toList]; rfl
  refine Lib.wpList_append_own_string w hgd sl x 22 9 ho B 5 i0 Try.underlying22 Try.underlying9 hi hz0 hz1 hz2 v l.length (bc l) hs hb.1 s hx (by unfold maxLen; omega) (by omega) hb.2.2 ?_
  intro v' w' ho' hg _
  refine h v' w' (hb.grown ?_ hg)
  rw [List.length_append, bc_append, ← hsz, ← hnews]
  exact ho'

end

/-- What a buffer that holds something looks like, and its cells. -/
theorem Buf.form {B : Nat} {l : List UInt8} {v : Value} {W0 w : World} (h : Buf B l v W0 w) (hl : 0 < l.length) :
    ∃ g cap, v = .slice (some ⟨g, 0, none⟩) l.length cap ∧ B ≤ g ∧ g < w.heap.size ∧ l.length ≤ cap ∧ cap ≤ maxLen ∧ ∀ j (hj : j < l.length), w.cell? ⟨g, j, none⟩ = some (.int .u8 l[j].toNat) := by
  rcases h.1.2 with ⟨_, h0⟩ | ⟨g, cap, cur, hv, hb, hg, hn, hm, _⟩
  · omega
  · refine ⟨g, cap, hv, hb, ?_, hn, hm, ?_⟩
    · rcases Nat.lt_or_ge g w.heap.size with hlt | hge
      · exact hlt
      · rw [Array.getElem?_eq_none hge] at hg; cases hg
    · intro j hj
      have := h.1.cells (g := g) (by rw [hv]; rfl) j (.int .u8 l[j].toNat) (by simp [bc, hj])
      have hadd : (⟨g, 0, none⟩ : Addr).add j = ⟨g, j, none⟩ := by unfold Addr.add; split <;> simp_all
      rw [hadd] at this
      exact this

/-- A buffer stays what it was while only what lies above its world is made. -/
theorem Buf.later {B : Nat} {l : List UInt8} {v : Value} {W0 w w' : World} (h : Buf B l v W0 w) (hb : Below w.heap.size w w') : Buf B l v W0 w' := by
  refine ⟨⟨h.1.1, ?_⟩, h.2.1.trans (hb.mono h.2.2), Nat.le_trans h.2.2 hb.size⟩
  rcases h.1.2 with h2 | ⟨g, cap, cur, hv, hg, hh, r⟩
  · exact .inl h2
  · refine .inr ⟨g, cap, cur, hv, hg, ?_, r⟩
    rw [hb.block g ?_, hh]
    rcases Nat.lt_or_ge g w.heap.size with hlt | hge
    · exact hlt
    · rw [Array.getElem?_eq_none hge] at hh; cases hh

end Go.Proofs.Qxb6602860a
