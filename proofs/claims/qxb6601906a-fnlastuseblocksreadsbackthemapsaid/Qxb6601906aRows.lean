/-
  No cell of these rows narrows 'for every input' (looked for: loops, veiled, ifaces, maps, wideKeys, modest, calm, conditions, laid).
  DERIVED. THE GIVEN ROWS OF THIS SEAT. 1 by the template 'for every input the law returns true; each argument reads behind the call as it read before'; 0 by the template 'total and deterministic' (their statements: Qxb6601906aTotals.lean).
  GIVEN WITH THE SEED: the statements are not yours to turn. If you find one false, say at which input.
  Laid BY PROGRAM, IN A SANDBOX (cutbox-rows.mjs): the forced cells as the released guide's own fill.sh prints them over the translation ef0e77427cfde1d8… (all of the seat's roots in one cut). By AI agents, Wed Nov 11 2026. No macro, syntax, notation, axiom, sorry.
-/
import Derived.Test.Qxb6601906aChecked
import GoSem.Claim
import GoSem.ClaimJoined
import GoSem.ClaimMapViews
import Derived.JoinedTies
import Derived.KernelRfl
namespace Go.Proofs.Qxb6601906a
/- THE CELL 'sum', in the pinned program and in every row, IS THE sha256 OF THE DUMP (.gsa) THAT Qxb6601906aProg.lean LOADS. Nothing in Lean hashes anything: it is a label: what it is worth is what the hold of that sum in a sandbox is worth. -/
noncomputable def Try.pinned : Pinned := { name := "qxb6601906a", sum := "ef0e77427cfde1d87491b319a12608968f207f14ed3f0f9c09fd1c6737b84b1d", checked := Try.checked }
namespace Rows
def none {H : Type} : Left H := { results := [], args := [] }

/-- 'zzlaws_pkg_store_b1.FnLastUseBlocksReadsBackTheMap': WHATEVER THE INPUT: true; the input reads as it did. -/
def fnLastUseBlocksReadsBackTheMapSpec : ChangeSpec := { name := "fnLastUseBlocksReadsBackTheMap", fn := fun _ => fun
  | [d1, d2] => { results := [.lit (.bool true)], args := [d1, d2] }
  | _ => none }
def fnLastUseBlocksReadsBackTheMapRow : OpenClaim := { program := "qxb6601906a", sum := "ef0e77427cfde1d87491b319a12608968f207f14ed3f0f9c09fd1c6737b84b1d", func := "example.com/anvilgate/anvilgate/zzlaws_pkg_store_b1.FnLastUseBlocksReadsBackTheMap", spec := "fnLastUseBlocksReadsBackTheMap", recurses := true, apart := false }
def FnLastUseBlocksReadsBackTheMapSaid : Prop := fnLastUseBlocksReadsBackTheMapRow.holds Try.pinned (OpenSpec.ofChange fnLastUseBlocksReadsBackTheMapSpec)

/-- ITS FALSE NEIGHBOUR: 'it returns false'. Refute it at one input. -/
def fnLastUseBlocksReadsBackTheMapWrong : ChangeSpec := { name := "fnLastUseBlocksReadsBackTheMap", fn := fun _ => fun
  | [d1, d2] => { results := [.lit (.bool false)], args := [d1, d2] }
  | _ => none }
def FnLastUseBlocksReadsBackTheMapWrongFalsely : Prop := fnLastUseBlocksReadsBackTheMapRow.holds Try.pinned (OpenSpec.ofChange fnLastUseBlocksReadsBackTheMapWrong)

end Rows
end Go.Proofs.Qxb6601906a
