/-
  No cell of these rows narrows 'for every input' (looked for: loops, veiled, ifaces, maps, wideKeys, modest, calm, conditions, laid).
  DERIVED. THE GIVEN ROWS OF THIS SEAT. 3 by the template 'for every input the law returns true; each argument reads behind the call as it read before'; 0 by the template 'total and deterministic' (their statements: Qxb6603640aTotals.lean).
  GIVEN WITH THE SEED: the statements are not yours to turn. If you find one false, say at which input.
  Laid BY PROGRAM, IN A SANDBOX (cutbox-rows.mjs): the forced cells as the released guide's own fill.sh prints them over the translation cdf48c221cb4278e… (all of the seat's roots in one cut). By AI agents, Wed Nov 11 2026. No macro, syntax, notation, axiom, sorry.
-/
import Derived.Test.Qxb6603640aChecked
import GoSem.Claim
import GoSem.ClaimJoined
import GoSem.ClaimMapViews
import Derived.JoinedTies
import Derived.KernelRfl
namespace Go.Proofs.Qxb6603640a
/- THE CELL 'sum', in the pinned program and in every row, IS THE sha256 OF THE DUMP (.gsa) THAT Qxb6603640aProg.lean LOADS. Nothing in Lean hashes anything: it is a label: what it is worth is what the hold of that sum in a sandbox is worth. -/
noncomputable def Try.pinned : Pinned := { name := "qxb6603640a", sum := "cdf48c221cb4278e7fa4ee18ac569115c9fb81ab4340f77a2ced760ebf034a63", checked := Try.checked }
namespace Rows
def none {H : Type} : Left H := { results := [], args := [] }

/-- 'zzlaws_root_b1.FnLaterEndIsNilTopMax': WHATEVER THE INPUT: true; the input reads as it did. -/
def fnLaterEndIsNilTopMaxSpec : ChangeSpec := { name := "fnLaterEndIsNilTopMax", fn := fun _ => fun
  | [d1, d2] => { results := [.lit (.bool true)], args := [d1, d2] }
  | _ => none }
def fnLaterEndIsNilTopMaxRow : OpenClaim := { program := "qxb6603640a", sum := "cdf48c221cb4278e7fa4ee18ac569115c9fb81ab4340f77a2ced760ebf034a63", func := "example.com/undoweave/undoweave/zzlaws_root_b1.FnLaterEndIsNilTopMax", spec := "fnLaterEndIsNilTopMax", apart := false }
def FnLaterEndIsNilTopMaxSaid : Prop := fnLaterEndIsNilTopMaxRow.holds Try.pinned (OpenSpec.ofChange fnLaterEndIsNilTopMaxSpec)

/-- ITS FALSE NEIGHBOUR: 'it returns false'. Refute it at one input. -/
def fnLaterEndIsNilTopMaxWrong : ChangeSpec := { name := "fnLaterEndIsNilTopMax", fn := fun _ => fun
  | [d1, d2] => { results := [.lit (.bool false)], args := [d1, d2] }
  | _ => none }
def FnLaterEndIsNilTopMaxWrongFalsely : Prop := fnLaterEndIsNilTopMaxRow.holds Try.pinned (OpenSpec.ofChange fnLaterEndIsNilTopMaxWrong)

/-- 'zzlaws_root_b1.FnLaterEndFoldsThreeEndsToTheirLatest': WHATEVER THE INPUT: true; the input reads as it did. -/
def fnLaterEndFoldsThreeEndsToTheirLatestSpec : ChangeSpec := { name := "fnLaterEndFoldsThreeEndsToTheirLatest", fn := fun _ => fun
  | [d1, d2, d3] => { results := [.lit (.bool true)], args := [d1, d2, d3] }
  | _ => none }
def fnLaterEndFoldsThreeEndsToTheirLatestRow : OpenClaim := { program := "qxb6603640a", sum := "cdf48c221cb4278e7fa4ee18ac569115c9fb81ab4340f77a2ced760ebf034a63", func := "example.com/undoweave/undoweave/zzlaws_root_b1.FnLaterEndFoldsThreeEndsToTheirLatest", spec := "fnLaterEndFoldsThreeEndsToTheirLatest", apart := false }
def FnLaterEndFoldsThreeEndsToTheirLatestSaid : Prop := fnLaterEndFoldsThreeEndsToTheirLatestRow.holds Try.pinned (OpenSpec.ofChange fnLaterEndFoldsThreeEndsToTheirLatestSpec)

/-- ITS FALSE NEIGHBOUR: 'it returns false'. Refute it at one input. -/
def fnLaterEndFoldsThreeEndsToTheirLatestWrong : ChangeSpec := { name := "fnLaterEndFoldsThreeEndsToTheirLatest", fn := fun _ => fun
  | [d1, d2, d3] => { results := [.lit (.bool false)], args := [d1, d2, d3] }
  | _ => none }
def FnLaterEndFoldsThreeEndsToTheirLatestWrongFalsely : Prop := fnLaterEndFoldsThreeEndsToTheirLatestRow.holds Try.pinned (OpenSpec.ofChange fnLaterEndFoldsThreeEndsToTheirLatestWrong)

/-- 'zzlaws_root_b1.FnSeesIsOwnOrEndedBeforeView': WHATEVER THE INPUT: true; the input reads as it did. -/
def fnSeesIsOwnOrEndedBeforeViewSpec : ChangeSpec := { name := "fnSeesIsOwnOrEndedBeforeView", fn := fun _ => fun
  | [d1, d2, d3, d4, d5, d6] => { results := [.lit (.bool true)], args := [d1, d2, d3, d4, d5, d6] }
  | _ => none }
def fnSeesIsOwnOrEndedBeforeViewRow : OpenClaim := { program := "qxb6603640a", sum := "cdf48c221cb4278e7fa4ee18ac569115c9fb81ab4340f77a2ced760ebf034a63", func := "example.com/undoweave/undoweave/zzlaws_root_b1.FnSeesIsOwnOrEndedBeforeView", spec := "fnSeesIsOwnOrEndedBeforeView", apart := false }
def FnSeesIsOwnOrEndedBeforeViewSaid : Prop := fnSeesIsOwnOrEndedBeforeViewRow.holds Try.pinned (OpenSpec.ofChange fnSeesIsOwnOrEndedBeforeViewSpec)

/-- ITS FALSE NEIGHBOUR: 'it returns false'. Refute it at one input. -/
def fnSeesIsOwnOrEndedBeforeViewWrong : ChangeSpec := { name := "fnSeesIsOwnOrEndedBeforeView", fn := fun _ => fun
  | [d1, d2, d3, d4, d5, d6] => { results := [.lit (.bool false)], args := [d1, d2, d3, d4, d5, d6] }
  | _ => none }
def FnSeesIsOwnOrEndedBeforeViewWrongFalsely : Prop := fnSeesIsOwnOrEndedBeforeViewRow.holds Try.pinned (OpenSpec.ofChange fnSeesIsOwnOrEndedBeforeViewWrong)

end Rows
end Go.Proofs.Qxb6603640a
