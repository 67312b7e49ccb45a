/-
  No cell of these rows narrows 'for every input' (looked for: loops, veiled, ifaces, maps, wideKeys, modest, calm, conditions, laid).
  DERIVED. THE GIVEN ROWS OF THIS SEAT. 3 by the template 'for every input the law returns true; each argument reads behind the call as it read before'; 0 by the template 'total and deterministic' (their statements: Qxb6619267aTotals.lean).
  GIVEN WITH THE SEED: the statements are not yours to turn. If you find one false, say at which input.
  Laid BY PROGRAM, IN A SANDBOX (cutbox-rows.mjs): the forced cells as the released guide's own fill.sh prints them over the translation de1fc14ed5fbc9f4… (all of the seat's roots in one cut). By AI agents, Wed Nov 11 2026. No macro, syntax, notation, axiom, sorry.
-/
import Derived.Test.Qxb6619267aChecked
import GoSem.Claim
import GoSem.ClaimJoined
import GoSem.ClaimMapViews
import Derived.JoinedTies
import Derived.KernelRfl
namespace Go.Proofs.Qxb6619267a
/- THE CELL 'sum', in the pinned program and in every row, IS THE sha256 OF THE DUMP (.gsa) THAT Qxb6619267aProg.lean LOADS. Nothing in Lean hashes anything: it is a label: what it is worth is what the hold of that sum in a sandbox is worth. -/
noncomputable def Try.pinned : Pinned := { name := "qxb6619267a", sum := "de1fc14ed5fbc9f41c8cc76e6930d4ab2135a4ed05377577d1a49746ddc41610", checked := Try.checked }
namespace Rows
def none {H : Type} : Left H := { results := [], args := [] }

/-- 'zzlaws_internal_pdf_b1.FnIsNumberMatchesGrammar': WHATEVER THE INPUT: true; the input reads as it did. -/
def fnIsNumberMatchesGrammarSpec : ChangeSpec := { name := "fnIsNumberMatchesGrammar", fn := fun _ => fun
  | [d] => { results := [.lit (.bool true)], args := [d] }
  | _ => none }
def fnIsNumberMatchesGrammarRow : OpenClaim := { program := "qxb6619267a", sum := "de1fc14ed5fbc9f41c8cc76e6930d4ab2135a4ed05377577d1a49746ddc41610", func := "example.com/failovr/failovr/zzlaws_internal_pdf_b1.FnIsNumberMatchesGrammar", spec := "fnIsNumberMatchesGrammar", apart := false }
def FnIsNumberMatchesGrammarSaid : Prop := fnIsNumberMatchesGrammarRow.holds Try.pinned (OpenSpec.ofChange fnIsNumberMatchesGrammarSpec)

/-- ITS FALSE NEIGHBOUR: 'it returns false'. Refute it at one input. -/
def fnIsNumberMatchesGrammarWrong : ChangeSpec := { name := "fnIsNumberMatchesGrammar", fn := fun _ => fun
  | [d] => { results := [.lit (.bool false)], args := [d] }
  | _ => none }
def FnIsNumberMatchesGrammarWrongFalsely : Prop := fnIsNumberMatchesGrammarRow.holds Try.pinned (OpenSpec.ofChange fnIsNumberMatchesGrammarWrong)

/-- 'zzlaws_internal_pdf_b1.FnIsNumberPointAnywhere': WHATEVER THE INPUT: true; the input reads as it did. -/
def fnIsNumberPointAnywhereSpec : ChangeSpec := { name := "fnIsNumberPointAnywhere", fn := fun _ => fun
  | [d1, d2] => { results := [.lit (.bool true)], args := [d1, d2] }
  | _ => none }
def fnIsNumberPointAnywhereRow : OpenClaim := { program := "qxb6619267a", sum := "de1fc14ed5fbc9f41c8cc76e6930d4ab2135a4ed05377577d1a49746ddc41610", func := "example.com/failovr/failovr/zzlaws_internal_pdf_b1.FnIsNumberPointAnywhere", spec := "fnIsNumberPointAnywhere", apart := false }
def FnIsNumberPointAnywhereSaid : Prop := fnIsNumberPointAnywhereRow.holds Try.pinned (OpenSpec.ofChange fnIsNumberPointAnywhereSpec)

/-- ITS FALSE NEIGHBOUR: 'it returns false'. Refute it at one input. -/
def fnIsNumberPointAnywhereWrong : ChangeSpec := { name := "fnIsNumberPointAnywhere", fn := fun _ => fun
  | [d1, d2] => { results := [.lit (.bool false)], args := [d1, d2] }
  | _ => none }
def FnIsNumberPointAnywhereWrongFalsely : Prop := fnIsNumberPointAnywhereRow.holds Try.pinned (OpenSpec.ofChange fnIsNumberPointAnywhereWrong)

/-- 'zzlaws_internal_pdf_b1.FnSkipSpaceDecidedByWhatItRead': WHATEVER THE INPUT: true; the input reads as it did. -/
def fnSkipSpaceDecidedByWhatItReadSpec : ChangeSpec := { name := "fnSkipSpaceDecidedByWhatItRead", fn := fun _ => fun
  | [d1, d2, d3] => { results := [.lit (.bool true)], args := [d1, d2, d3] }
  | _ => none }
def fnSkipSpaceDecidedByWhatItReadRow : OpenClaim := { program := "qxb6619267a", sum := "de1fc14ed5fbc9f41c8cc76e6930d4ab2135a4ed05377577d1a49746ddc41610", func := "example.com/failovr/failovr/zzlaws_internal_pdf_b1.FnSkipSpaceDecidedByWhatItRead", spec := "fnSkipSpaceDecidedByWhatItRead", apart := false }
def FnSkipSpaceDecidedByWhatItReadSaid : Prop := fnSkipSpaceDecidedByWhatItReadRow.holds Try.pinned (OpenSpec.ofChange fnSkipSpaceDecidedByWhatItReadSpec)

/-- ITS FALSE NEIGHBOUR: 'it returns false'. Refute it at one input. -/
def fnSkipSpaceDecidedByWhatItReadWrong : ChangeSpec := { name := "fnSkipSpaceDecidedByWhatItRead", fn := fun _ => fun
  | [d1, d2, d3] => { results := [.lit (.bool false)], args := [d1, d2, d3] }
  | _ => none }
def FnSkipSpaceDecidedByWhatItReadWrongFalsely : Prop := fnSkipSpaceDecidedByWhatItReadRow.holds Try.pinned (OpenSpec.ofChange fnSkipSpaceDecidedByWhatItReadWrong)

end Rows
end Go.Proofs.Qxb6619267a
