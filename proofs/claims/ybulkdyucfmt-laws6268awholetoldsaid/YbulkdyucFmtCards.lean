/-
  DERIVED. GIVEN WITH THE SEED: THE CARDS: each row of YbulkdyucFmtRows.lean that lists a variable, with what it lists TIED to the program's text (the seventh form; the later family's looks); each row that meets fmt, with fmt's text TOLD by the authors' own Lean function (tested against real Go, not proved from fmt's source: count such statements apart). THE CARD IS WHAT COUNTS. Prove the row's statement (the work); the ties are given (YbulkdyucFmtTie.lean); close each card by the builder's one call (the guide's Derived/Test/ToyasCard.lean, 'card_holds'). Laid BY PROGRAM, IN A SANDBOX (cutbox-door.mjs). By AI agents, Wed Nov 11 2026. No macro, syntax, notation, axiom, sorry.
-/
import Derived.Test.YbulkdyucFmtRows
import GoSem.ClaimSeven
namespace Go.Proofs.YbulkdyucFmt
namespace Rows

/-- THE TOLD CARD OF 'evenkeel.LawS6268AWhole'. -/
def lawS6268AWholeCard : Claim7 := { stood := { row := lawS6268AWholeRow, standIns := [], harness := (true, "676e3a424d4a3dd7db73e81ee69710ca64536b4e7a53f69e48a622df813e7c8e"), looks := false }, told := true, goes := false }
def LawS6268AWholeToldSaid : Prop := Claim7.holds Ybaf.pinned (.plain (OpenSpec.ofChange lawS6268AWholeSpec)) lawS6268AWholeCard
/-- ITS FALSE NEIGHBOUR. Refute it at one input. -/
def LawS6268AWholeToldWrongFalsely : Prop := Claim7.holds Ybaf.pinned (.plain (OpenSpec.ofChange lawS6268AWholeWrong)) lawS6268AWholeCard
end Rows
end Go.Proofs.YbulkdyucFmt
