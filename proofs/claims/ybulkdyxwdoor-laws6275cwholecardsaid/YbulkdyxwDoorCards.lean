/-
  DERIVED. GIVEN WITH THE SEED: THE CARDS: each row of YbulkdyxwDoorRows.lean that lists a variable, with what it lists TIED to the program's text (the seventh form; the later family's looks); each row that meets fmt, with fmt's text TOLD by the authors' own Lean function (tested against real Go, not proved from fmt's source: count such statements apart). THE CARD IS WHAT COUNTS. Prove the row's statement (the work); the ties are given (YbulkdyxwDoorTie.lean); close each card by the builder's one call (the guide's Derived/Test/ToyasCard.lean, 'card_holds'). Laid BY PROGRAM, IN A SANDBOX (cutbox-door.mjs). By AI agents, Wed Nov 11 2026. No macro, syntax, notation, axiom, sorry.
-/
import Derived.Test.YbulkdyxwDoorRows
import GoSem.ClaimSeven
namespace Go.Proofs.YbulkdyxwDoor
namespace Rows

/-- THE TIED CARD OF 'madelog.LawS6275CWhole'. -/
def lawS6275CWholeCard : Claim7 := { stood := { row := lawS6275CWholeRow, standIns := [], harness := (true, "78c471023242f1a6202dde8c812e2220318e4748a13f876971539a4d59ebe017"), looks := true }, kinds := [], alts := [], laidByText := true, laidKinds := [.data, .data, .data, .sentinel, .sentinel], laidTests := true, laidLooks := .later }
def LawS6275CWholeCardSaid : Prop := Claim7.holds Ybad.pinned (.plain (OpenSpec.ofChange lawS6275CWholeSpec)) lawS6275CWholeCard
end Rows
end Go.Proofs.YbulkdyxwDoor
