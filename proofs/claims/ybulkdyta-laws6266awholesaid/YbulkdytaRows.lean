/-
  No cell of these rows narrows 'for every input' (looked for: loops, veiled, ifaces, maps, wideKeys, modest, calm, conditions, laid).
  DERIVED. THE GIVEN ROWS OF THIS SEAT. 2 by the template 'for every input the law returns true; each argument reads behind the call as it read before'; 0 by the template 'total and deterministic' (their statements: YbulkdytaTotals.lean).
  GIVEN WITH THE SEED: the statements are not yours to turn. If you find one false, say at which input.
  Laid BY PROGRAM, IN A SANDBOX (cutbox-rows.mjs): the forced cells as the released guide's own fill.sh prints them over the translation 49098fdcc0e1d897… (all of the seat's roots in one cut). By AI agents, Wed Nov 11 2026. No macro, syntax, notation, axiom, sorry.
-/
import Derived.Test.YbulkdytaChecked
import GoSem.Claim
import GoSem.ClaimJoined
import GoSem.ClaimMapViews
import Derived.JoinedTies
import Derived.KernelRfl
namespace Go.Proofs.Ybulkdyta
/- THE CELL 'sum', in the pinned program and in every row, IS THE sha256 OF THE DUMP (.gsa) THAT YbulkdytaProg.lean LOADS. Nothing in Lean hashes anything: it is a label: what it is worth is what the hold of that sum in a sandbox is worth. -/
noncomputable def Yba.pinned : Pinned := { name := "ybulkdyta", sum := "49098fdcc0e1d89774e43f3d186c1503618340a3fa9eb281715f7fc280b42d78", checked := Yba.checked }
namespace Rows
def none {H : Type} : Left H := { results := [], args := [] }

/-- 'trade-access.LawS6266AWhole': WHATEVER THE INPUT: true; the input reads as it did. -/
def lawS6266AWholeSpec : ChangeSpec := { name := "lawS6266AWhole", fn := fun _ => fun
  | [d1, d2, d3, d4] => { results := [.lit (.bool true)], args := [d1, d2, d3, d4] }
  | _ => none }
def lawS6266AWholeRow : OpenClaim := { program := "ybulkdyta", sum := "49098fdcc0e1d89774e43f3d186c1503618340a3fa9eb281715f7fc280b42d78", func := "example.com/trade-access/trade-access.LawS6266AWhole", spec := "lawS6266AWhole", apart := false }
def LawS6266AWholeSaid : Prop := lawS6266AWholeRow.holds Yba.pinned (OpenSpec.ofChange lawS6266AWholeSpec)

/-- ITS FALSE NEIGHBOUR: 'it returns false'. Refute it at one input. -/
def lawS6266AWholeWrong : ChangeSpec := { name := "lawS6266AWhole", fn := fun _ => fun
  | [d1, d2, d3, d4] => { results := [.lit (.bool false)], args := [d1, d2, d3, d4] }
  | _ => none }
def LawS6266AWholeWrongFalsely : Prop := lawS6266AWholeRow.holds Yba.pinned (OpenSpec.ofChange lawS6266AWholeWrong)

/-- 'trade-access.LawS6266BWhole': WHATEVER THE INPUT: true; the input reads as it did. -/
def lawS6266BWholeSpec : ChangeSpec := { name := "lawS6266BWhole", fn := fun _ => fun
  | [d1, d2, d3, d4, d5] => { results := [.lit (.bool true)], args := [d1, d2, d3, d4, d5] }
  | _ => none }
def lawS6266BWholeRow : OpenClaim := { program := "ybulkdyta", sum := "49098fdcc0e1d89774e43f3d186c1503618340a3fa9eb281715f7fc280b42d78", func := "example.com/trade-access/trade-access.LawS6266BWhole", spec := "lawS6266BWhole", inPlace := ["internal/bytealg.abigen_runtime_cmpstring"], apart := false }
def LawS6266BWholeSaid : Prop := lawS6266BWholeRow.holds Yba.pinned (OpenSpec.ofChange lawS6266BWholeSpec)

/-- ITS FALSE NEIGHBOUR: 'it returns false'. Refute it at one input. -/
def lawS6266BWholeWrong : ChangeSpec := { name := "lawS6266BWhole", fn := fun _ => fun
  | [d1, d2, d3, d4, d5] => { results := [.lit (.bool false)], args := [d1, d2, d3, d4, d5] }
  | _ => none }
def LawS6266BWholeWrongFalsely : Prop := lawS6266BWholeRow.holds Yba.pinned (OpenSpec.ofChange lawS6266BWholeWrong)

end Rows
end Go.Proofs.Ybulkdyta
