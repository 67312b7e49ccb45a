/-
  No cell of these rows narrows 'for every input' (looked for: loops, veiled, ifaces, maps, wideKeys, modest, calm, conditions, laid).
  DERIVED. THE GIVEN ROWS OF THIS SEAT. 2 by the template 'for every input the law returns true; each argument reads behind the call as it read before'; 0 by the template 'total and deterministic' (their statements: Qxb6619199aTotals.lean).
  GIVEN WITH THE SEED: the statements are not yours to turn. If you find one false, say at which input.
  Laid BY PROGRAM, IN A SANDBOX (cutbox-rows.mjs): the forced cells as the released guide's own fill.sh prints them over the translation a5ec623991d072f9… (all of the seat's roots in one cut). By AI agents, Wed Nov 11 2026. No macro, syntax, notation, axiom, sorry.
-/
import Derived.Test.Qxb6619199aChecked
import GoSem.Claim
import GoSem.ClaimJoined
import GoSem.ClaimMapViews
import Derived.JoinedTies
import Derived.KernelRfl
namespace Go.Proofs.Qxb6619199a
/- THE CELL 'sum', in the pinned program and in every row, IS THE sha256 OF THE DUMP (.gsa) THAT Qxb6619199aProg.lean LOADS. Nothing in Lean hashes anything: it is a label: what it is worth is what the hold of that sum in a sandbox is worth. -/
noncomputable def Try.pinned : Pinned := { name := "qxb6619199a", sum := "a5ec623991d072f9b8a4e16d44ba88bb0ef4e8bd663897fb73db35c09bca2c58", checked := Try.checked }
namespace Rows
def none {H : Type} : Left H := { results := [], args := [] }

/-- 'zzlaws_cluster_b1.FnPairOfIsTheSortedPairAndSymmetric': WHATEVER THE INPUT: true; the input reads as it did. -/
def fnPairOfIsTheSortedPairAndSymmetricSpec : ChangeSpec := { name := "fnPairOfIsTheSortedPairAndSymmetric", fn := fun _ => fun
  | [d1, d2] => { results := [.lit (.bool true)], args := [d1, d2] }
  | _ => none }
def fnPairOfIsTheSortedPairAndSymmetricRow : OpenClaim := { program := "qxb6619199a", sum := "a5ec623991d072f9b8a4e16d44ba88bb0ef4e8bd663897fb73db35c09bca2c58", func := "example.com/tideline/tideline/zzlaws_cluster_b1.FnPairOfIsTheSortedPairAndSymmetric", spec := "fnPairOfIsTheSortedPairAndSymmetric", apart := false }
def FnPairOfIsTheSortedPairAndSymmetricSaid : Prop := fnPairOfIsTheSortedPairAndSymmetricRow.holds Try.pinned (OpenSpec.ofChange fnPairOfIsTheSortedPairAndSymmetricSpec)

/-- ITS FALSE NEIGHBOUR: 'it returns false'. Refute it at one input. -/
def fnPairOfIsTheSortedPairAndSymmetricWrong : ChangeSpec := { name := "fnPairOfIsTheSortedPairAndSymmetric", fn := fun _ => fun
  | [d1, d2] => { results := [.lit (.bool false)], args := [d1, d2] }
  | _ => none }
def FnPairOfIsTheSortedPairAndSymmetricWrongFalsely : Prop := fnPairOfIsTheSortedPairAndSymmetricRow.holds Try.pinned (OpenSpec.ofChange fnPairOfIsTheSortedPairAndSymmetricWrong)

/-- 'zzlaws_cluster_b1.FnPairOfNamesTheSameLinkExactlyForTheSameTwoRegions': WHATEVER THE INPUT: true; the input reads as it did. -/
def fnPairOfNamesTheSameLinkExactlyForTheSameTwoRegionsSpec : ChangeSpec := { name := "fnPairOfNamesTheSameLinkExactlyForTheSameTwoRegions", fn := fun _ => fun
  | [d1, d2, d3, d4] => { results := [.lit (.bool true)], args := [d1, d2, d3, d4] }
  | _ => none }
def fnPairOfNamesTheSameLinkExactlyForTheSameTwoRegionsRow : OpenClaim := { program := "qxb6619199a", sum := "a5ec623991d072f9b8a4e16d44ba88bb0ef4e8bd663897fb73db35c09bca2c58", func := "example.com/tideline/tideline/zzlaws_cluster_b1.FnPairOfNamesTheSameLinkExactlyForTheSameTwoRegions", spec := "fnPairOfNamesTheSameLinkExactlyForTheSameTwoRegions", apart := false }
def FnPairOfNamesTheSameLinkExactlyForTheSameTwoRegionsSaid : Prop := fnPairOfNamesTheSameLinkExactlyForTheSameTwoRegionsRow.holds Try.pinned (OpenSpec.ofChange fnPairOfNamesTheSameLinkExactlyForTheSameTwoRegionsSpec)

/-- ITS FALSE NEIGHBOUR: 'it returns false'. Refute it at one input. -/
def fnPairOfNamesTheSameLinkExactlyForTheSameTwoRegionsWrong : ChangeSpec := { name := "fnPairOfNamesTheSameLinkExactlyForTheSameTwoRegions", fn := fun _ => fun
  | [d1, d2, d3, d4] => { results := [.lit (.bool false)], args := [d1, d2, d3, d4] }
  | _ => none }
def FnPairOfNamesTheSameLinkExactlyForTheSameTwoRegionsWrongFalsely : Prop := fnPairOfNamesTheSameLinkExactlyForTheSameTwoRegionsRow.holds Try.pinned (OpenSpec.ofChange fnPairOfNamesTheSameLinkExactlyForTheSameTwoRegionsWrong)

end Rows
end Go.Proofs.Qxb6619199a
