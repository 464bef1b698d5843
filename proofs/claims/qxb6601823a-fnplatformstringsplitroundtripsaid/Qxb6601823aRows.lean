/-
  No cell of these rows narrows 'for every input' (looked for: loops, veiled, ifaces, maps, wideKeys, modest, calm, conditions, laid).
  DERIVED. THE GIVEN ROWS OF THIS SEAT. 2 by the template 'for every input the law returns true; each argument reads behind the call as it read before'; 0 by the template 'total and deterministic' (their statements: Qxb6601823aTotals.lean).
  GIVEN WITH THE SEED: the statements are not yours to turn. If you find one false, say at which input.
  Laid BY PROGRAM, IN A SANDBOX (cutbox-rows.mjs): the forced cells as the released guide's own fill.sh prints them over the translation 556268fdd8d35413… (all of the seat's roots in one cut). By AI agents, Wed Nov 11 2026. No macro, syntax, notation, axiom, sorry.
-/
import Derived.Test.Qxb6601823aChecked
import GoSem.Claim
import GoSem.ClaimJoined
import GoSem.ClaimMapViews
import Derived.JoinedTies
import Derived.KernelRfl
namespace Go.Proofs.Qxb6601823a
/- THE CELL 'sum', in the pinned program and in every row, IS THE sha256 OF THE DUMP (.gsa) THAT Qxb6601823aProg.lean LOADS. Nothing in Lean hashes anything: it is a label: what it is worth is what the hold of that sum in a sandbox is worth. -/
noncomputable def Try.pinned : Pinned := { name := "qxb6601823a", sum := "556268fdd8d3541383a6d34893bcb5d4bae478b1db0c2c9019fc913841ac199e", checked := Try.checked }
namespace Rows
def none {H : Type} : Left H := { results := [], args := [] }

/-- 'zzlaws_manifest_b1.FnPlatformStringSplitRoundTrip': WHATEVER THE INPUT: true; the input reads as it did. -/
def fnPlatformStringSplitRoundTripSpec : ChangeSpec := { name := "fnPlatformStringSplitRoundTrip", fn := fun _ => fun
  | [d1, d2, d3, d4, d5, d6] => { results := [.lit (.bool true)], args := [d1, d2, d3, d4, d5, d6] }
  | _ => none }
def fnPlatformStringSplitRoundTripRow : OpenClaim := { program := "qxb6601823a", sum := "556268fdd8d3541383a6d34893bcb5d4bae478b1db0c2c9019fc913841ac199e", func := "example.com/dunnage/dunnage/zzlaws_manifest_b1.FnPlatformStringSplitRoundTrip", spec := "fnPlatformStringSplitRoundTrip", apart := false }
def FnPlatformStringSplitRoundTripSaid : Prop := fnPlatformStringSplitRoundTripRow.holds Try.pinned (OpenSpec.ofChange fnPlatformStringSplitRoundTripSpec)

/-- ITS FALSE NEIGHBOUR: 'it returns false'. Refute it at one input. -/
def fnPlatformStringSplitRoundTripWrong : ChangeSpec := { name := "fnPlatformStringSplitRoundTrip", fn := fun _ => fun
  | [d1, d2, d3, d4, d5, d6] => { results := [.lit (.bool false)], args := [d1, d2, d3, d4, d5, d6] }
  | _ => none }
def FnPlatformStringSplitRoundTripWrongFalsely : Prop := fnPlatformStringSplitRoundTripRow.holds Try.pinned (OpenSpec.ofChange fnPlatformStringSplitRoundTripWrong)

/-- 'zzlaws_manifest_b1.FnPlatformStringInjective': WHATEVER THE INPUT: true; the input reads as it did. -/
def fnPlatformStringInjectiveSpec : ChangeSpec := { name := "fnPlatformStringInjective", fn := fun _ => fun
  | [d1, d2, d3, d4, d5, d6, d7, d8, d9, d10, d11, d12] => { results := [.lit (.bool true)], args := [d1, d2, d3, d4, d5, d6, d7, d8, d9, d10, d11, d12] }
  | _ => none }
def fnPlatformStringInjectiveRow : OpenClaim := { program := "qxb6601823a", sum := "556268fdd8d3541383a6d34893bcb5d4bae478b1db0c2c9019fc913841ac199e", func := "example.com/dunnage/dunnage/zzlaws_manifest_b1.FnPlatformStringInjective", spec := "fnPlatformStringInjective", apart := false }
def FnPlatformStringInjectiveSaid : Prop := fnPlatformStringInjectiveRow.holds Try.pinned (OpenSpec.ofChange fnPlatformStringInjectiveSpec)

/-- ITS FALSE NEIGHBOUR: 'it returns false'. Refute it at one input. -/
def fnPlatformStringInjectiveWrong : ChangeSpec := { name := "fnPlatformStringInjective", fn := fun _ => fun
  | [d1, d2, d3, d4, d5, d6, d7, d8, d9, d10, d11, d12] => { results := [.lit (.bool false)], args := [d1, d2, d3, d4, d5, d6, d7, d8, d9, d10, d11, d12] }
  | _ => none }
def FnPlatformStringInjectiveWrongFalsely : Prop := fnPlatformStringInjectiveRow.holds Try.pinned (OpenSpec.ofChange fnPlatformStringInjectiveWrong)

end Rows
end Go.Proofs.Qxb6601823a
