/-
  A SLICE OF FIELDS THAT CAME IN, OPENED: from the form's reading to 'HasZ'.
-/
import Derived.Test.Qxb6602860aFields
import Derived.ProofKit
import Derived.OpenShut
import Derived.Deep.Slices
namespace Go.Proofs.Qxb6602860a
open Go.ChangeShapes Go.WideShapes Go.ChangeAt Go.RowKit

theorem Try.cells35 : Try.prog.cellsOf 35 = 5 := by kernel_rfl
theorem Try.cells5 : Try.prog.cellsOf 5 = 1 := by kernel_rfl
theorem Try.cells4 : Try.prog.cellsOf 4 = 1 := by kernel_rfl
theorem Try.cells2 : Try.prog.cellsOf 2 = 1 := by kernel_rfl
theorem Try.cells33 : Try.prog.cellsOf 33 = 1 := by kernel_rfl
theorem Try.cells9 : Try.prog.cellsOf 9 = 1 := by kernel_rfl

theorem trod_float {H : Type} {enc : TypeId × Value → H} {P : Program} {w : World} {base : Nat} {spare : Nat → Bool} {held : Bool} {fuel : Nat} {t : TypeId} {k : FloatKind} {cs : List Value} {x : DataW H × List MemPlace}
    (ht : P.underlying t = some (.float k)) (h : DataW.trod enc P w base spare held fuel t cs = some x) : ∃ b, cs = [.float k b] := by
  cases fuel with
  | zero => simp [DataW.trod] at h
  | succ n =>
    unfold DataW.trod at h
    rw [ht] at h
    split at h <;> simp_all

theorem open_zf {H : Type} {enc : TypeId × Value → H} {w : World} {base : Nat} {spare : Nat → Bool} {held : Bool} {n : Nat} {cs : List Value} {x : DataW H × List MemPlace}
    (h : DataW.trod enc Try.prog w base spare held n 35 cs = some x) : ∃ z : ZF, cs = [.int .u8 z.k, .bool z.b, .int .i64 z.i, .float .f64 z.f, .string z.s] := by
  obtain ⟨xs, m, _, _, hl, hlen, hf⟩ := DataW.trod_struct Try.underlying35 h
  rw [Try.cells35] at hl
  match cs, hl with
  | [c0, c1, c2, c3, c4], _ =>
    match xs, hlen with
    | [x0, x1, x2, x3, x4], _ =>
      have e0 : DataW.trod enc Try.prog w base spare held m 5 [c0] = some x0 := by simpa [Try.cells5] using hf 0 _ rfl
      have e1 : DataW.trod enc Try.prog w base spare held m 4 [c1] = some x1 := by simpa [Try.cells4] using hf 1 _ rfl
      have e2 : DataW.trod enc Try.prog w base spare held m 2 [c2] = some x2 := by simpa [Try.cells2] using hf 2 _ rfl
      have e3 : DataW.trod enc Try.prog w base spare held m 33 [c3] = some x3 := by simpa [Try.cells33] using hf 3 _ rfl
      have e4 : DataW.trod enc Try.prog w base spare held m 9 [c4] = some x4 := by simpa [Try.cells9] using hf 4 _ rfl
      obtain ⟨k, hk, _⟩ := DataW.trod_int Try.underlying5 e0
      obtain ⟨b, hb, _⟩ := DataW.trod_bool Try.underlying4 e1
      obtain ⟨i, hi, _⟩ := DataW.trod_int Try.underlying2 e2
      obtain ⟨f, hf'⟩ := trod_float Try.underlying33 e3
      obtain ⟨s, hs, _⟩ := DataW.trod_string Try.underlying9 e4
      simp only [List.cons.injEq, and_true] at hk hb hi hf' hs
      exact ⟨⟨k, b, i, f, s⟩, by rw [hk, hb, hi, hf', hs]⟩

theorem open_fields {H : Type} {enc : TypeId × Value → H} {w : World} {ao : Option Addr} {len cap : Nat} {d : DataW H} {p : List MemPlace}
    (h : DataW.Trod enc Try.prog w 0 (fun _ => true) true 30 (.slice ao len cap) d p) : len ≤ maxLen ∧ ∃ Z, HasZ w ao len Z := by
  obtain ⟨fuel, hf⟩ := h
  rcases Deep.open_slice Try.underlying30 hf with ⟨hcs, _⟩ | ⟨a, l, c, m, n, D, Pl, hcs, _, hl, hm, hmm, _, hel⟩
  · simp [Value.cells] at hcs
    obtain ⟨rfl, rfl, rfl⟩ := hcs
    exact ⟨by omega, fun _ => ⟨0, false, 0, 0, ByteArray.empty⟩, fun _ => rfl, .inl rfl⟩
  · simp [Value.cells] at hcs
    obtain ⟨rfl, rfl, rfl⟩ := hcs
    simp only [if_true] at hmm
    subst hmm
    refine ⟨by omega, ?_⟩
    by_cases h0 : len = 0
    · subst h0
      exact ⟨fun _ => ⟨0, false, 0, 0, ByteArray.empty⟩, (fun h => by cases h), .inl rfl⟩
    · rw [Try.cells35] at hel
      have hz : ∀ i, i < len → ∃ z : ZF, w.cells? 0 (a.add (i * 5)) 5 = some [.int .u8 z.k, .bool z.b, .int .i64 z.i, .float .f64 z.f, .string z.s] := fun i hi => by
        obtain ⟨cs', h1, h2⟩ := hel i (by omega)
        obtain ⟨z, rfl⟩ := open_zf h2
        exact ⟨z, h1⟩
      obtain ⟨Z, hZ⟩ := @Deep.choose_lt ZF ⟨⟨0, false, 0, 0, ByteArray.empty⟩⟩ len _ hz
      obtain ⟨b, off, spot⟩ := a
      have hcell : ∀ i, i < len → ∀ c v, [Value.int .u8 (Z i).k, .bool (Z i).b, .int .i64 (Z i).i, .float .f64 (Z i).f, .string (Z i).s][c]? = some v → c < 5 → w.cell? (((⟨b, off, spot⟩ : Addr).add (i * 5)).add c) = some v := fun i hi c v hv hc => by
        have := World.cells?_some (hZ i hi)
        rw [← hv]
        exact this.2.2 c hc
      have hspot : spot = none := by simpa [Addr.add] using World.cell?_spot (hcell 0 (by omega) 0 _ rfl (by omega))
      subst hspot
      have hadd : ∀ (o j : Nat), (⟨b, o, none⟩ : Addr).add j = ⟨b, o + j, none⟩ := fun o j => by unfold Addr.add; split <;> simp_all
      simp only [hadd] at hcell
      have hlt : b < w.heap.size := World.block_lt_of_cell? w ⟨b, _, none⟩ (hcell 0 (by omega) 0 _ rfl (by omega))
      exact ⟨Z, (fun h => by cases h), .inr ⟨b, off, rfl, hlt, fun j hj => ⟨hcell j hj 0 _ rfl (by omega), hcell j hj 1 _ rfl (by omega), hcell j hj 2 _ rfl (by omega), hcell j hj 3 _ rfl (by omega), hcell j hj 4 _ rfl (by omega)⟩⟩⟩
end Go.Proofs.Qxb6602860a
