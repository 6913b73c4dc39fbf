/-
  THE WALKS OF zBytes AND OF THE TWO zzBytes functions over fields: what they answer does not matter to the laws: that they answer, and leave memory alone.
-/
import Derived.Test.Qxb6602860aMatches
namespace Go.Proofs.Qxb6602860a
open Go.RowKit

/-- The call has returned a bool. -/
def IsBool (e : Ending) : Prop := ∃ r : Bool, e = .returned (.bool r)

set_option maxHeartbeats 400000 in
/-- zBytes answers some number and leaves memory alone: the laws ask no more of it. -/
theorem zbytes_any (ao : Option Addr) (n cap : Nat) (Z : Nat → ZF) (w : World) (hn : n ≤ 65536) (h : HasZ w ao n Z) :
    Calls Try.prog 16 #[.slice ao n cap] w fun e w' => (∃ r : Int, e = .returned (.int .i64 r)) ∧ w = w' := by
  have H : Hid (HasZ w ao n Z) := h
  clear h
  go_enter Try.func16, Try.ntmps16
  go_wp2
  go_loop [3, 4] (fun t i => ∃ (k : Nat) (r : Int), k ≤ n ∧ i = .int .i64 k ∧ t = .int .i64 r) (fun _ i => n - (intOf i).toNat)
  case atStart => exact ⟨0, _, Nat.zero_le _, rfl, rfl⟩
  case round =>
    obtain ⟨k, r, hk, rfl, rfl⟩ := hrel
    by_cases hkl : k < n
    · rcases H.out.2 with h0 | ⟨b, off, rfl, hb, hc⟩
      · omega
      have c5 := (hc k hkl).s
      obtain ⟨s, hs⟩ : ∃ s, (Z k).s = s := ⟨_, rfl⟩
      rw [hs] at c5
      clear hc hs
      go_wp2
      · go_ret
        exact ⟨⟨_, rfl⟩, rfl⟩
      · go_round
        case rel => exact ⟨k + 1, _, by omega, by go_num, rfl⟩
        case measure => simp [intOf]; omega
    · obtain rfl : k = n := by omega
      go_wp2
      go_ret
      exact ⟨⟨_, rfl⟩, rfl⟩

set_option maxHeartbeats 400000 in
theorem b21 (ao : Option Addr) (n cap : Nat) (Z : Nat → ZF) (w : World) (hn : n ≤ 9223372036854775807) (h : HasZ w ao n Z) :
    Calls Try.prog 21 #[.slice ao n cap] w fun e w' => IsBool e ∧ w = w' := by
  have H : Hid (HasZ w ao n Z) := h
  clear h
  by_cases hbig : n ≤ 1048576
  · go_enter Try.func21, Try.ntmps21
    go_wp2
    go_loop [3, 4] (fun t i => ∃ (k : Nat) (r : Int), k ≤ n ∧ i = .int .i64 k ∧ t = .int .i64 r) (fun _ i => n - (intOf i).toNat)
    case atStart => exact ⟨0, _, Nat.zero_le _, rfl, rfl⟩
    case round =>
      obtain ⟨k, r, hk, rfl, rfl⟩ := hrel
      by_cases hkl : k < n
      · rcases H.out.2 with h0 | ⟨b, off, rfl, hb, hc⟩
        · omega
        have c5 := (hc k hkl).s
        obtain ⟨s, hs⟩ : ∃ s, (Z k).s = s := ⟨_, rfl⟩
        rw [hs] at c5
        clear hc hs
        go_wp2
        · go_ret
          exact ⟨⟨_, rfl⟩, rfl⟩
        · go_ret
          exact ⟨⟨_, rfl⟩, rfl⟩
        · go_round
          case rel => exact ⟨k + 1, _, by omega, by go_num, rfl⟩
          case measure => simp [intOf]; omega
      · obtain rfl : k = n := by omega
        go_wp2
        go_ret
        exact ⟨⟨_, rfl⟩, rfl⟩
  · go_enter Try.func21, Try.ntmps21
    go_wp2
    go_ret
    exact ⟨⟨_, rfl⟩, rfl⟩

set_option maxHeartbeats 1000000 in
theorem b22 (ao : Option Addr) (n cap : Nat) (Z : Nat → ZF) (ao2 : Option Addr) (n2 cap2 : Nat) (Z2 : Nat → ZF) (w : World) (hn : n ≤ 9223372036854775807) (hn2 : n2 ≤ 9223372036854775807) (h : HasZ w ao n Z) (h2 : HasZ w ao2 n2 Z2) :
    Calls Try.prog 22 #[.slice ao n cap, .slice ao2 n2 cap2] w fun e w' => IsBool e ∧ w = w' := by
  have H : Hid (HasZ w ao n Z) := h
  have H2 : Hid (HasZ w ao2 n2 Z2) := h2
  clear h h2
  by_cases hbig : n ≤ 1048576
  · go_enter Try.func22, Try.ntmps22
    go_wp2
    go_loop [5, 6] (fun t i => ∃ (k : Nat) (r : Int), k ≤ n ∧ i = .int .i64 k ∧ t = .int .i64 r) (fun _ i => n - (intOf i).toNat)
    case atStart => exact ⟨0, _, Nat.zero_le _, rfl, rfl⟩
    case round =>
      obtain ⟨k, r, hk, rfl, rfl⟩ := hrel
      by_cases hkl : k < n
      · rcases H.out.2 with h0 | ⟨b, off, rfl, hb, hc⟩
        · omega
        have c5 := (hc k hkl).s
        obtain ⟨s, hs⟩ : ∃ s, (Z k).s = s := ⟨_, rfl⟩
        rw [hs] at c5
        clear hc hs
        go_wp2
        · go_ret
          exact ⟨⟨_, rfl⟩, rfl⟩
        · go_ret
          exact ⟨⟨_, rfl⟩, rfl⟩
        · go_round
          case rel => exact ⟨k + 1, _, by omega, by go_num, rfl⟩
          case measure => simp [intOf]; omega
      · obtain rfl : k = n := by omega
        by_cases hbig2 : n2 ≤ 1048576
        · go_wp2
          · go_ret
            exact ⟨⟨_, rfl⟩, rfl⟩
          · go_loop [5, 7] (fun t i => ∃ (k : Nat) (r : Int), k ≤ n2 ∧ i = .int .i64 k ∧ t = .int .i64 r) (fun _ i => n2 - (intOf i).toNat)
            case atStart => exact ⟨0, _, Nat.zero_le _, rfl, rfl⟩
            case round =>
              obtain ⟨j, r2, hj, rfl, rfl⟩ := hrel
              by_cases hjl : j < n2
              · rcases H2.out.2 with h0 | ⟨b, off, rfl, hb, hc⟩
                · omega
                have c5 := (hc j hjl).s
                obtain ⟨s, hs⟩ : ∃ s, (Z2 j).s = s := ⟨_, rfl⟩
                rw [hs] at c5
                clear hc hs
                go_wp2
                · go_ret
                  exact ⟨⟨_, rfl⟩, rfl⟩
                · go_ret
                  exact ⟨⟨_, rfl⟩, rfl⟩
                · go_round
                  case rel => exact ⟨j + 1, _, by omega, by go_num, rfl⟩
                  case measure => simp [intOf]; omega
              · obtain rfl : j = n2 := by omega
                go_wp2
                go_ret
                exact ⟨⟨_, rfl⟩, rfl⟩
        · go_wp2
          go_ret
          exact ⟨⟨_, rfl⟩, rfl⟩
  · go_enter Try.func22, Try.ntmps22
    go_wp2
    go_ret
    exact ⟨⟨_, rfl⟩, rfl⟩
end Go.Proofs.Qxb6602860a
