/-
  NARROWER THAN 'FOR EVERY INPUT', by the rows' own cells (each row's printed sentence says how): FnReachableIsWhatClimbsToTheTop: maps · FnReachableGraftsAFreshLeaf: maps.
  DERIVED. THE GIVEN ROWS OF THIS SEAT. 2 by the template 'for every input the law returns true; each argument reads behind the call as it read before'; 0 by the template 'total and deterministic' (their statements: Qxb6601503aTotals.lean).
  GIVEN WITH THE SEED: the statements are not yours to turn. If you find one false, say at which input.
  Laid BY PROGRAM, IN A SANDBOX (cutbox-rows.mjs): the forced cells as the released guide's own fill.sh prints them over the translation 05f2515dcfccaf5e… (all of the seat's roots in one cut). By AI agents, Wed Nov 11 2026. No macro, syntax, notation, axiom, sorry.
-/
import Derived.Test.Qxb6601503aChecked
import GoSem.Claim
import GoSem.ClaimJoined
import GoSem.ClaimMapViews
import Derived.JoinedTies
import Derived.KernelRfl
namespace Go.Proofs.Qxb6601503a
/- THE CELL 'sum', in the pinned program and in every row, IS THE sha256 OF THE DUMP (.gsa) THAT Qxb6601503aProg.lean LOADS. Nothing in Lean hashes anything: it is a label: what it is worth is what the hold of that sum in a sandbox is worth. -/
noncomputable def Try.pinned : Pinned := { name := "qxb6601503a", sum := "05f2515dcfccaf5ea17d04ccf4901b02aabbd30c64c8af217a7b001e49ca8469", checked := Try.checked }
namespace Rows
def none {H : Type} : Left H := { results := [], args := [] }

/-- 'zzlaws_internal_policy_b1.FnReachableIsWhatClimbsToTheTop': WHATEVER THE INPUT: true; the input reads as it did. -/
def fnReachableIsWhatClimbsToTheTopSpec : ChangeSpec := { name := "fnReachableIsWhatClimbsToTheTop", fn := fun _ => fun
  | [d1, d2] => { results := [.lit (.bool true)], args := [d1, d2] }
  | _ => none }
def fnReachableIsWhatClimbsToTheTopRow : OpenClaim := { program := "qxb6601503a", sum := "05f2515dcfccaf5ea17d04ccf4901b02aabbd30c64c8af217a7b001e49ca8469", func := "example.com/gatewright/gatewright/zzlaws_internal_policy_b1.FnReachableIsWhatClimbsToTheTop", spec := "fnReachableIsWhatClimbsToTheTop", maps := true, apart := false }
def FnReachableIsWhatClimbsToTheTopSaid : Prop := fnReachableIsWhatClimbsToTheTopRow.holds Try.pinned (OpenSpec.ofChange fnReachableIsWhatClimbsToTheTopSpec)

/-- ITS FALSE NEIGHBOUR: 'it returns false'. Refute it at one input. -/
def fnReachableIsWhatClimbsToTheTopWrong : ChangeSpec := { name := "fnReachableIsWhatClimbsToTheTop", fn := fun _ => fun
  | [d1, d2] => { results := [.lit (.bool false)], args := [d1, d2] }
  | _ => none }
def FnReachableIsWhatClimbsToTheTopWrongFalsely : Prop := fnReachableIsWhatClimbsToTheTopRow.holds Try.pinned (OpenSpec.ofChange fnReachableIsWhatClimbsToTheTopWrong)

/-- 'zzlaws_internal_policy_b1.FnReachableGraftsAFreshLeaf': WHATEVER THE INPUT: true; the input reads as it did. -/
def fnReachableGraftsAFreshLeafSpec : ChangeSpec := { name := "fnReachableGraftsAFreshLeaf", fn := fun _ => fun
  | [d1, d2, d3, d4] => { results := [.lit (.bool true)], args := [d1, d2, d3, d4] }
  | _ => none }
def fnReachableGraftsAFreshLeafRow : OpenClaim := { program := "qxb6601503a", sum := "05f2515dcfccaf5ea17d04ccf4901b02aabbd30c64c8af217a7b001e49ca8469", func := "example.com/gatewright/gatewright/zzlaws_internal_policy_b1.FnReachableGraftsAFreshLeaf", spec := "fnReachableGraftsAFreshLeaf", maps := true, apart := false }
def FnReachableGraftsAFreshLeafSaid : Prop := fnReachableGraftsAFreshLeafRow.holds Try.pinned (OpenSpec.ofChange fnReachableGraftsAFreshLeafSpec)

/-- ITS FALSE NEIGHBOUR: 'it returns false'. Refute it at one input. -/
def fnReachableGraftsAFreshLeafWrong : ChangeSpec := { name := "fnReachableGraftsAFreshLeaf", fn := fun _ => fun
  | [d1, d2, d3, d4] => { results := [.lit (.bool false)], args := [d1, d2, d3, d4] }
  | _ => none }
def FnReachableGraftsAFreshLeafWrongFalsely : Prop := fnReachableGraftsAFreshLeafRow.holds Try.pinned (OpenSpec.ofChange fnReachableGraftsAFreshLeafWrong)

end Rows
end Go.Proofs.Qxb6601503a
