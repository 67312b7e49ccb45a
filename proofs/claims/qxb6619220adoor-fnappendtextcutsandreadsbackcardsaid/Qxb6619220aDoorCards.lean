/-
  DERIVED. GIVEN WITH THE SEED: THE CARDS: each row of Qxb6619220aDoorRows.lean that lists a variable, with what it lists TIED to the program's text (the seventh form; the later family's looks); each row that meets fmt, with fmt's text TOLD by the authors' own Lean function (tested against real Go, not proved from fmt's source: count such statements apart). THE CARD IS WHAT COUNTS. Prove the row's statement (the work); the ties are given (Qxb6619220aDoorTie.lean); close each card by the builder's one call (the guide's Derived/Test/ToyasCard.lean, 'card_holds'). Laid BY PROGRAM, IN A SANDBOX (cutbox-door.mjs). By AI agents, Wed Nov 11 2026. No macro, syntax, notation, axiom, sorry.
-/
import Derived.Test.Qxb6619220aDoorRows
import GoSem.ClaimSeven
namespace Go.Proofs.Qxb6619220aDoor
namespace Rows

/-- THE TIED CARD OF 'zzlaws_root_b1.FnAppendTextCutsAndReadsBack'. -/
def fnAppendTextCutsAndReadsBackCard : Claim7 := { stood := { row := fnAppendTextCutsAndReadsBackRow, standIns := [], harness := (true, "075aba8484d233de5d3df041c94fa60261bd380743d6644667cb058d38d72456"), looks := false }, kinds := [], alts := [], laidByText := true, laidKinds := [.data, .data, .data], laidTests := true, laidLooks := .later }
def FnAppendTextCutsAndReadsBackCardSaid : Prop := Claim7.holds Tryd.pinned (.plain (OpenSpec.ofChange fnAppendTextCutsAndReadsBackSpec)) fnAppendTextCutsAndReadsBackCard
end Rows
end Go.Proofs.Qxb6619220aDoor
