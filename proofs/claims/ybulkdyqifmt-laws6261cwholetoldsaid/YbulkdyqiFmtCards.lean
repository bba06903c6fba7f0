/-
  DERIVED. GIVEN WITH THE SEED: THE CARDS: each row of YbulkdyqiFmtRows.lean that lists a variable, with what it lists TIED to the program's text (the seventh form; the later family's looks); each row that meets fmt, with fmt's text TOLD by the authors' own Lean function (tested against real Go, not proved from fmt's source: count such statements apart). THE CARD IS WHAT COUNTS. Prove the row's statement (the work); the ties are given (YbulkdyqiFmtTie.lean); close each card by the builder's one call (the guide's Derived/Test/ToyasCard.lean, 'card_holds'). Laid BY PROGRAM, IN A SANDBOX (cutbox-door.mjs). By AI agents, Wed Nov 11 2026. No macro, syntax, notation, axiom, sorry.
-/
import Derived.Test.YbulkdyqiFmtRows
import GoSem.ClaimSeven
namespace Go.Proofs.YbulkdyqiFmt
namespace Rows

/-- THE TOLD AND TIED CARD OF 'vcdiff.LawS6261CWhole'. -/
def lawS6261CWholeCard : Claim7 := { stood := { row := lawS6261CWholeRow, standIns := [], harness := (true, "b461c0eb29b9776e80269eb35ab8fd69ad3d2b27a94069b5c7f106daf2ed1c07"), looks := true }, told := true, laidByText := true, laidKinds := [.sentinel, .sentinel, .sentinel], laidTests := true, laidLooks := .later, goes := false }
def LawS6261CWholeToldSaid : Prop := Claim7.holds Ybaf.pinned (.plain (OpenSpec.ofChange lawS6261CWholeSpec)) lawS6261CWholeCard
/-- ITS FALSE NEIGHBOUR. Refute it at one input. -/
def LawS6261CWholeToldWrongFalsely : Prop := Claim7.holds Ybaf.pinned (.plain (OpenSpec.ofChange lawS6261CWholeWrong)) lawS6261CWholeCard
end Rows
end Go.Proofs.YbulkdyqiFmt
