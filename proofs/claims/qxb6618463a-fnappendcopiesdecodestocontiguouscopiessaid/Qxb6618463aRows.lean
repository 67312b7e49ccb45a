/-
  No cell of these rows narrows 'for every input' (looked for: loops, veiled, ifaces, maps, wideKeys, modest, calm, conditions, laid).
  DERIVED. THE GIVEN ROWS OF THIS SEAT. 1 by the template 'for every input the law returns true; each argument reads behind the call as it read before'; 0 by the template 'total and deterministic' (their statements: Qxb6618463aTotals.lean).
  GIVEN WITH THE SEED: the statements are not yours to turn. If you find one false, say at which input.
  Laid BY PROGRAM, IN A SANDBOX (cutbox-rows.mjs): the forced cells as the released guide's own fill.sh prints them over the translation cc3e260356503426… (all of the seat's roots in one cut). By AI agents, Wed Nov 11 2026. No macro, syntax, notation, axiom, sorry.
-/
import Derived.Test.Qxb6618463aChecked
import GoSem.Claim
import GoSem.ClaimJoined
import GoSem.ClaimMapViews
import Derived.JoinedTies
import Derived.KernelRfl
namespace Go.Proofs.Qxb6618463a
/- THE CELL 'sum', in the pinned program and in every row, IS THE sha256 OF THE DUMP (.gsa) THAT Qxb6618463aProg.lean LOADS. Nothing in Lean hashes anything: it is a label: what it is worth is what the hold of that sum in a sandbox is worth. -/
noncomputable def Try.pinned : Pinned := { name := "qxb6618463a", sum := "cc3e260356503426a39b79d920f7ae6758af5a4aa378d1565bf032ee111b3123", checked := Try.checked }
namespace Rows
def none {H : Type} : Left H := { results := [], args := [] }

/-- 'zzlaws_root_b1.FnAppendCopiesDecodesToContiguousCopies': WHATEVER THE INPUT: true; the input reads as it did. -/
def fnAppendCopiesDecodesToContiguousCopiesSpec : ChangeSpec := { name := "fnAppendCopiesDecodesToContiguousCopies", fn := fun _ => fun
  | [d1, d2, d3] => { results := [.lit (.bool true)], args := [d1, d2, d3] }
  | _ => none }
def fnAppendCopiesDecodesToContiguousCopiesRow : OpenClaim := { program := "qxb6618463a", sum := "cc3e260356503426a39b79d920f7ae6758af5a4aa378d1565bf032ee111b3123", func := "example.com/plumbline/plumbline/zzlaws_root_b1.FnAppendCopiesDecodesToContiguousCopies", spec := "fnAppendCopiesDecodesToContiguousCopies", apart := false }
def FnAppendCopiesDecodesToContiguousCopiesSaid : Prop := fnAppendCopiesDecodesToContiguousCopiesRow.holds Try.pinned (OpenSpec.ofChange fnAppendCopiesDecodesToContiguousCopiesSpec)

/-- ITS FALSE NEIGHBOUR: 'it returns false'. Refute it at one input. -/
def fnAppendCopiesDecodesToContiguousCopiesWrong : ChangeSpec := { name := "fnAppendCopiesDecodesToContiguousCopies", fn := fun _ => fun
  | [d1, d2, d3] => { results := [.lit (.bool false)], args := [d1, d2, d3] }
  | _ => none }
def FnAppendCopiesDecodesToContiguousCopiesWrongFalsely : Prop := fnAppendCopiesDecodesToContiguousCopiesRow.holds Try.pinned (OpenSpec.ofChange fnAppendCopiesDecodesToContiguousCopiesWrong)

end Rows
end Go.Proofs.Qxb6618463a
