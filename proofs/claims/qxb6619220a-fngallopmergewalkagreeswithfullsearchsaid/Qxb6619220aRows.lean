/-
  No cell of these rows narrows 'for every input' (looked for: loops, veiled, ifaces, maps, wideKeys, modest, calm, conditions, laid).
  DERIVED. THE GIVEN ROWS OF THIS SEAT. 2 by the template 'for every input the law returns true; each argument reads behind the call as it read before'; 0 by the template 'total and deterministic' (their statements: Qxb6619220aTotals.lean).
  GIVEN WITH THE SEED: the statements are not yours to turn. If you find one false, say at which input.
  Laid BY PROGRAM, IN A SANDBOX (cutbox-rows.mjs): the forced cells as the released guide's own fill.sh prints them over the translation 1324932aa6d173d8… (all of the seat's roots in one cut). By AI agents, Wed Nov 11 2026. No macro, syntax, notation, axiom, sorry.
-/
import Derived.Test.Qxb6619220aChecked
import GoSem.Claim
import GoSem.ClaimJoined
import GoSem.ClaimMapViews
import Derived.JoinedTies
import Derived.KernelRfl
namespace Go.Proofs.Qxb6619220a
/- THE CELL 'sum', in the pinned program and in every row, IS THE sha256 OF THE DUMP (.gsa) THAT Qxb6619220aProg.lean LOADS. Nothing in Lean hashes anything: it is a label: what it is worth is what the hold of that sum in a sandbox is worth. -/
noncomputable def Try.pinned : Pinned := { name := "qxb6619220a", sum := "1324932aa6d173d816963fb2f467736d47398788b3303308f5d508528fd1b9ed", checked := Try.checked }
namespace Rows
def none {H : Type} : Left H := { results := [], args := [] }

/-- 'zzlaws_root_b1.FnGallopIsFirstNotBefore': WHATEVER THE INPUT: true; the input reads as it did. -/
def fnGallopIsFirstNotBeforeSpec : ChangeSpec := { name := "fnGallopIsFirstNotBefore", fn := fun _ => fun
  | [d1, d2, d3] => { results := [.lit (.bool true)], args := [d1, d2, d3] }
  | _ => none }
def fnGallopIsFirstNotBeforeRow : OpenClaim := { program := "qxb6619220a", sum := "1324932aa6d173d816963fb2f467736d47398788b3303308f5d508528fd1b9ed", func := "example.com/causeline/causeline/zzlaws_root_b1.FnGallopIsFirstNotBefore", spec := "fnGallopIsFirstNotBefore", inPlace := ["internal/bytealg.abigen_runtime_cmpstring"], apart := false }
def FnGallopIsFirstNotBeforeSaid : Prop := fnGallopIsFirstNotBeforeRow.holds Try.pinned (OpenSpec.ofChange fnGallopIsFirstNotBeforeSpec)

/-- ITS FALSE NEIGHBOUR: 'it returns false'. Refute it at one input. -/
def fnGallopIsFirstNotBeforeWrong : ChangeSpec := { name := "fnGallopIsFirstNotBefore", fn := fun _ => fun
  | [d1, d2, d3] => { results := [.lit (.bool false)], args := [d1, d2, d3] }
  | _ => none }
def FnGallopIsFirstNotBeforeWrongFalsely : Prop := fnGallopIsFirstNotBeforeRow.holds Try.pinned (OpenSpec.ofChange fnGallopIsFirstNotBeforeWrong)

/-- 'zzlaws_root_b1.FnGallopMergeWalkAgreesWithFullSearch': WHATEVER THE INPUT: true; the input reads as it did. -/
def fnGallopMergeWalkAgreesWithFullSearchSpec : ChangeSpec := { name := "fnGallopMergeWalkAgreesWithFullSearch", fn := fun _ => fun
  | [d1, d2] => { results := [.lit (.bool true)], args := [d1, d2] }
  | _ => none }
def fnGallopMergeWalkAgreesWithFullSearchRow : OpenClaim := { program := "qxb6619220a", sum := "1324932aa6d173d816963fb2f467736d47398788b3303308f5d508528fd1b9ed", func := "example.com/causeline/causeline/zzlaws_root_b1.FnGallopMergeWalkAgreesWithFullSearch", spec := "fnGallopMergeWalkAgreesWithFullSearch", inPlace := ["internal/bytealg.abigen_runtime_cmpstring"], apart := false }
def FnGallopMergeWalkAgreesWithFullSearchSaid : Prop := fnGallopMergeWalkAgreesWithFullSearchRow.holds Try.pinned (OpenSpec.ofChange fnGallopMergeWalkAgreesWithFullSearchSpec)

/-- ITS FALSE NEIGHBOUR: 'it returns false'. Refute it at one input. -/
def fnGallopMergeWalkAgreesWithFullSearchWrong : ChangeSpec := { name := "fnGallopMergeWalkAgreesWithFullSearch", fn := fun _ => fun
  | [d1, d2] => { results := [.lit (.bool false)], args := [d1, d2] }
  | _ => none }
def FnGallopMergeWalkAgreesWithFullSearchWrongFalsely : Prop := fnGallopMergeWalkAgreesWithFullSearchRow.holds Try.pinned (OpenSpec.ofChange fnGallopMergeWalkAgreesWithFullSearchWrong)

end Rows
end Go.Proofs.Qxb6619220a
