/-
  No cell of these rows narrows 'for every input' (looked for: loops, veiled, ifaces, maps, wideKeys, modest, calm, conditions, laid).
  DERIVED. THE GIVEN ROWS OF THIS SEAT. 1 by the template 'for every input the law returns true; each argument reads behind the call as it read before'; 0 by the template 'total and deterministic' (their statements: YbulkdyucFmtTotals.lean).
  GIVEN WITH THE SEED: the statements are not yours to turn. If you find one false, say at which input.
  Laid BY PROGRAM, IN A SANDBOX (cutbox-rows.mjs): the forced cells as the released guide's own fill.sh prints them over the translation 628bc938c9c35f12… (all of the seat's roots in one cut). By AI agents, Wed Nov 11 2026. No macro, syntax, notation, axiom, sorry.
-/
import Derived.Test.YbulkdyucFmtChecked
import GoSem.Claim
import GoSem.ClaimJoined
import GoSem.ClaimMapViews
import Derived.JoinedTies
import Derived.KernelRfl
namespace Go.Proofs.YbulkdyucFmt
/- THE CELL 'sum', in the pinned program and in every row, IS THE sha256 OF THE DUMP (.gsa) THAT YbulkdyucFmtProg.lean LOADS. Nothing in Lean hashes anything: it is a label: what it is worth is what the hold of that sum in a sandbox is worth. -/
noncomputable def Ybaf.pinned : Pinned := { name := "ybulkdyucfmt", sum := "628bc938c9c35f12085c2cf5c57286054292da403f672e13ea8cf015167795ab", checked := Ybaf.checked }
namespace Rows
def none {H : Type} : Left H := { results := [], args := [] }

/-- 'evenkeel.LawS6268AWhole': WHATEVER THE INPUT: true; the input reads as it did. -/
def lawS6268AWholeSpec : ChangeSpec := { name := "lawS6268AWhole", fn := fun _ => fun
  | [d] => { results := [.lit (.bool true)], args := [d] }
  | _ => none }
def lawS6268AWholeRow : OpenClaim := { program := "ybulkdyucfmt", sum := "628bc938c9c35f12085c2cf5c57286054292da403f672e13ea8cf015167795ab", func := "example.com/evenkeel/evenkeel.LawS6268AWhole", spec := "lawS6268AWhole", stops := ["fmt.Sprintf"], inPlace := ["fmt.Sprintf"], apart := false }
/-- NO THEOREM (fmt's text is open here; it may be false): for the released tool's asking of the row's closed facts alone. THE STATEMENT IS 'LawS6268AWholeToldSaid' (YbulkdyucFmtCards.lean). -/
def LawS6268AWholeFormAsk : Prop := lawS6268AWholeRow.holds Ybaf.pinned (OpenSpec.ofChange lawS6268AWholeSpec)

/-- ITS FALSE NEIGHBOUR: 'it returns false'. Refute it at one input. -/
def lawS6268AWholeWrong : ChangeSpec := { name := "lawS6268AWhole", fn := fun _ => fun
  | [d] => { results := [.lit (.bool false)], args := [d] }
  | _ => none }
def LawS6268AWholeWrongFormAsk : Prop := lawS6268AWholeRow.holds Ybaf.pinned (OpenSpec.ofChange lawS6268AWholeWrong)

end Rows
end Go.Proofs.YbulkdyucFmt
