/-
  No cell of these rows narrows 'for every input' (looked for: loops, veiled, ifaces, maps, wideKeys, modest, calm, conditions, laid).
  DERIVED. THE GIVEN ROWS OF THIS SEAT. 6 by the template 'for every input the law returns true; each argument reads behind the call as it read before'; 0 by the template 'total and deterministic' (their statements: Qxb6602860aTotals.lean).
  GIVEN WITH THE SEED: the statements are not yours to turn. If you find one false, say at which input.
  Laid BY PROGRAM, IN A SANDBOX (cutbox-rows.mjs): the forced cells as the released guide's own fill.sh prints them over the translation a5aabe0497777400… (all of the seat's roots in one cut). By AI agents, Wed Nov 11 2026. No macro, syntax, notation, axiom, sorry.
-/
import Derived.Test.Qxb6602860aChecked
import GoSem.Claim
import GoSem.ClaimJoined
import GoSem.ClaimMapViews
import Derived.JoinedTies
import Derived.KernelRfl
namespace Go.Proofs.Qxb6602860a
/- THE CELL 'sum', in the pinned program and in every row, IS THE sha256 OF THE DUMP (.gsa) THAT Qxb6602860aProg.lean LOADS. Nothing in Lean hashes anything: it is a label: what it is worth is what the hold of that sum in a sandbox is worth. -/
noncomputable def Try.pinned : Pinned := { name := "qxb6602860a", sum := "a5aabe04977774003a6362a6b226c79b78dc3012d21e3cb128493fd972fa26c6", checked := Try.checked }
namespace Rows
def none {H : Type} : Left H := { results := [], args := [] }

/-- 'zzlaws_pkg_tuple_b1.FnAppendStringWritesCanonicalJSON': WHATEVER THE INPUT: true; the input reads as it did. -/
def fnAppendStringWritesCanonicalJSONSpec : ChangeSpec := { name := "fnAppendStringWritesCanonicalJSON", fn := fun _ => fun
  | [d1, d2] => { results := [.lit (.bool true)], args := [d1, d2] }
  | _ => none }
def fnAppendStringWritesCanonicalJSONRow : OpenClaim := { program := "qxb6602860a", sum := "a5aabe04977774003a6362a6b226c79b78dc3012d21e3cb128493fd972fa26c6", func := "example.com/kvorum/kvorum/zzlaws_pkg_tuple_b1.FnAppendStringWritesCanonicalJSON", spec := "fnAppendStringWritesCanonicalJSON", apart := false }
def FnAppendStringWritesCanonicalJSONSaid : Prop := fnAppendStringWritesCanonicalJSONRow.holds Try.pinned (OpenSpec.ofChange fnAppendStringWritesCanonicalJSONSpec)

/-- ITS FALSE NEIGHBOUR: 'it returns false'. Refute it at one input. -/
def fnAppendStringWritesCanonicalJSONWrong : ChangeSpec := { name := "fnAppendStringWritesCanonicalJSON", fn := fun _ => fun
  | [d1, d2] => { results := [.lit (.bool false)], args := [d1, d2] }
  | _ => none }
def FnAppendStringWritesCanonicalJSONWrongFalsely : Prop := fnAppendStringWritesCanonicalJSONRow.holds Try.pinned (OpenSpec.ofChange fnAppendStringWritesCanonicalJSONWrong)

/-- 'zzlaws_pkg_tuple_b1.FnAppendStringSplitsAtConcatenation': WHATEVER THE INPUT: true; the input reads as it did. -/
def fnAppendStringSplitsAtConcatenationSpec : ChangeSpec := { name := "fnAppendStringSplitsAtConcatenation", fn := fun _ => fun
  | [d1, d2] => { results := [.lit (.bool true)], args := [d1, d2] }
  | _ => none }
def fnAppendStringSplitsAtConcatenationRow : OpenClaim := { program := "qxb6602860a", sum := "a5aabe04977774003a6362a6b226c79b78dc3012d21e3cb128493fd972fa26c6", func := "example.com/kvorum/kvorum/zzlaws_pkg_tuple_b1.FnAppendStringSplitsAtConcatenation", spec := "fnAppendStringSplitsAtConcatenation", apart := false }
def FnAppendStringSplitsAtConcatenationSaid : Prop := fnAppendStringSplitsAtConcatenationRow.holds Try.pinned (OpenSpec.ofChange fnAppendStringSplitsAtConcatenationSpec)

/-- ITS FALSE NEIGHBOUR: 'it returns false'. Refute it at one input. -/
def fnAppendStringSplitsAtConcatenationWrong : ChangeSpec := { name := "fnAppendStringSplitsAtConcatenation", fn := fun _ => fun
  | [d1, d2] => { results := [.lit (.bool false)], args := [d1, d2] }
  | _ => none }
def FnAppendStringSplitsAtConcatenationWrongFalsely : Prop := fnAppendStringSplitsAtConcatenationRow.holds Try.pinned (OpenSpec.ofChange fnAppendStringSplitsAtConcatenationWrong)

/-- 'zzlaws_pkg_tuple_b1.FnAppendStringLengthBounds': WHATEVER THE INPUT: true; the input reads as it did. -/
def fnAppendStringLengthBoundsSpec : ChangeSpec := { name := "fnAppendStringLengthBounds", fn := fun _ => fun
  | [d] => { results := [.lit (.bool true)], args := [d] }
  | _ => none }
def fnAppendStringLengthBoundsRow : OpenClaim := { program := "qxb6602860a", sum := "a5aabe04977774003a6362a6b226c79b78dc3012d21e3cb128493fd972fa26c6", func := "example.com/kvorum/kvorum/zzlaws_pkg_tuple_b1.FnAppendStringLengthBounds", spec := "fnAppendStringLengthBounds", apart := false }
def FnAppendStringLengthBoundsSaid : Prop := fnAppendStringLengthBoundsRow.holds Try.pinned (OpenSpec.ofChange fnAppendStringLengthBoundsSpec)

/-- ITS FALSE NEIGHBOUR: 'it returns false'. Refute it at one input. -/
def fnAppendStringLengthBoundsWrong : ChangeSpec := { name := "fnAppendStringLengthBounds", fn := fun _ => fun
  | [d] => { results := [.lit (.bool false)], args := [d] }
  | _ => none }
def FnAppendStringLengthBoundsWrongFalsely : Prop := fnAppendStringLengthBoundsRow.holds Try.pinned (OpenSpec.ofChange fnAppendStringLengthBoundsWrong)

/-- 'zzlaws_pkg_tuple_b1.FnMatchesSplitsAtOneField': WHATEVER THE INPUT: true; the input reads as it did. -/
def fnMatchesSplitsAtOneFieldSpec : ChangeSpec := { name := "fnMatchesSplitsAtOneField", fn := fun _ => fun
  | [d1, d2, d3] => { results := [.lit (.bool true)], args := [d1, d2, d3] }
  | _ => none }
def fnMatchesSplitsAtOneFieldRow : OpenClaim := { program := "qxb6602860a", sum := "a5aabe04977774003a6362a6b226c79b78dc3012d21e3cb128493fd972fa26c6", func := "example.com/kvorum/kvorum/zzlaws_pkg_tuple_b1.FnMatchesSplitsAtOneField", spec := "fnMatchesSplitsAtOneField", apart := false }
def FnMatchesSplitsAtOneFieldSaid : Prop := fnMatchesSplitsAtOneFieldRow.holds Try.pinned (OpenSpec.ofChange fnMatchesSplitsAtOneFieldSpec)

/-- ITS FALSE NEIGHBOUR: 'it returns false'. Refute it at one input. -/
def fnMatchesSplitsAtOneFieldWrong : ChangeSpec := { name := "fnMatchesSplitsAtOneField", fn := fun _ => fun
  | [d1, d2, d3] => { results := [.lit (.bool false)], args := [d1, d2, d3] }
  | _ => none }
def FnMatchesSplitsAtOneFieldWrongFalsely : Prop := fnMatchesSplitsAtOneFieldRow.holds Try.pinned (OpenSpec.ofChange fnMatchesSplitsAtOneFieldWrong)

/-- 'zzlaws_pkg_tuple_b1.FnMatchesOwnFieldsUnlessNaN': WHATEVER THE INPUT: true; the input reads as it did. -/
def fnMatchesOwnFieldsUnlessNaNSpec : ChangeSpec := { name := "fnMatchesOwnFieldsUnlessNaN", fn := fun _ => fun
  | [d] => { results := [.lit (.bool true)], args := [d] }
  | _ => none }
def fnMatchesOwnFieldsUnlessNaNRow : OpenClaim := { program := "qxb6602860a", sum := "a5aabe04977774003a6362a6b226c79b78dc3012d21e3cb128493fd972fa26c6", func := "example.com/kvorum/kvorum/zzlaws_pkg_tuple_b1.FnMatchesOwnFieldsUnlessNaN", spec := "fnMatchesOwnFieldsUnlessNaN", apart := false }
def FnMatchesOwnFieldsUnlessNaNSaid : Prop := fnMatchesOwnFieldsUnlessNaNRow.holds Try.pinned (OpenSpec.ofChange fnMatchesOwnFieldsUnlessNaNSpec)

/-- ITS FALSE NEIGHBOUR: 'it returns false'. Refute it at one input. -/
def fnMatchesOwnFieldsUnlessNaNWrong : ChangeSpec := { name := "fnMatchesOwnFieldsUnlessNaN", fn := fun _ => fun
  | [d] => { results := [.lit (.bool false)], args := [d] }
  | _ => none }
def FnMatchesOwnFieldsUnlessNaNWrongFalsely : Prop := fnMatchesOwnFieldsUnlessNaNRow.holds Try.pinned (OpenSpec.ofChange fnMatchesOwnFieldsUnlessNaNWrong)

/-- 'zzlaws_pkg_tuple_b1.FnMatchesAllWildcardsAcceptExactlyTheirLength': WHATEVER THE INPUT: true; the input reads as it did. -/
def fnMatchesAllWildcardsAcceptExactlyTheirLengthSpec : ChangeSpec := { name := "fnMatchesAllWildcardsAcceptExactlyTheirLength", fn := fun _ => fun
  | [d1, d2] => { results := [.lit (.bool true)], args := [d1, d2] }
  | _ => none }
def fnMatchesAllWildcardsAcceptExactlyTheirLengthRow : OpenClaim := { program := "qxb6602860a", sum := "a5aabe04977774003a6362a6b226c79b78dc3012d21e3cb128493fd972fa26c6", func := "example.com/kvorum/kvorum/zzlaws_pkg_tuple_b1.FnMatchesAllWildcardsAcceptExactlyTheirLength", spec := "fnMatchesAllWildcardsAcceptExactlyTheirLength", apart := false }
def FnMatchesAllWildcardsAcceptExactlyTheirLengthSaid : Prop := fnMatchesAllWildcardsAcceptExactlyTheirLengthRow.holds Try.pinned (OpenSpec.ofChange fnMatchesAllWildcardsAcceptExactlyTheirLengthSpec)

/-- ITS FALSE NEIGHBOUR: 'it returns false'. Refute it at one input. -/
def fnMatchesAllWildcardsAcceptExactlyTheirLengthWrong : ChangeSpec := { name := "fnMatchesAllWildcardsAcceptExactlyTheirLength", fn := fun _ => fun
  | [d1, d2] => { results := [.lit (.bool false)], args := [d1, d2] }
  | _ => none }
def FnMatchesAllWildcardsAcceptExactlyTheirLengthWrongFalsely : Prop := fnMatchesAllWildcardsAcceptExactlyTheirLengthRow.holds Try.pinned (OpenSpec.ofChange fnMatchesAllWildcardsAcceptExactlyTheirLengthWrong)

end Rows
end Go.Proofs.Qxb6602860a
