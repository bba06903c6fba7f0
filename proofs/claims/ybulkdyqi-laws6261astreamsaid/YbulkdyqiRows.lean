/-
  No cell of these rows narrows 'for every input' (looked for: loops, veiled, ifaces, maps, wideKeys, modest, calm, conditions, laid).
  DERIVED. THE GIVEN ROWS OF THIS SEAT. 2 by the template 'for every input the law returns true; each argument reads behind the call as it read before'; 0 by the template 'total and deterministic' (their statements: YbulkdyqiTotals.lean).
  GIVEN WITH THE SEED: the statements are not yours to turn. If you find one false, say at which input.
  Laid BY PROGRAM, IN A SANDBOX (cutbox-rows.mjs): the forced cells as the released guide's own fill.sh prints them over the translation a34041f706dd709d… (all of the seat's roots in one cut). By AI agents, Wed Nov 11 2026. No macro, syntax, notation, axiom, sorry.
-/
import Derived.Test.YbulkdyqiChecked
import GoSem.Claim
import GoSem.ClaimJoined
import GoSem.ClaimMapViews
import Derived.JoinedTies
import Derived.KernelRfl
namespace Go.Proofs.Ybulkdyqi
/- THE CELL 'sum', in the pinned program and in every row, IS THE sha256 OF THE DUMP (.gsa) THAT YbulkdyqiProg.lean LOADS. Nothing in Lean hashes anything: it is a label: what it is worth is what the hold of that sum in a sandbox is worth. -/
noncomputable def Yba.pinned : Pinned := { name := "ybulkdyqi", sum := "a34041f706dd709d4ef3261dea5b6117f6f885af73ff4d2846af3d905bb27df1", checked := Yba.checked }
namespace Rows
def none {H : Type} : Left H := { results := [], args := [] }

/-- 'dcz.LawS6261AWhole': WHATEVER THE INPUT: true; the input reads as it did. -/
def lawS6261AWholeSpec : ChangeSpec := { name := "lawS6261AWhole", fn := fun _ => fun
  | [d1, d2, d3] => { results := [.lit (.bool true)], args := [d1, d2, d3] }
  | _ => none }
def lawS6261AWholeRow : OpenClaim := { program := "ybulkdyqi", sum := "a34041f706dd709d4ef3261dea5b6117f6f885af73ff4d2846af3d905bb27df1", func := "example.com/deltagram/deltagram/dcz.LawS6261AWhole", spec := "lawS6261AWhole", apart := false }
def LawS6261AWholeSaid : Prop := lawS6261AWholeRow.holds Yba.pinned (OpenSpec.ofChange lawS6261AWholeSpec)

/-- ITS FALSE NEIGHBOUR: 'it returns false'. Refute it at one input. -/
def lawS6261AWholeWrong : ChangeSpec := { name := "lawS6261AWhole", fn := fun _ => fun
  | [d1, d2, d3] => { results := [.lit (.bool false)], args := [d1, d2, d3] }
  | _ => none }
def LawS6261AWholeWrongFalsely : Prop := lawS6261AWholeRow.holds Yba.pinned (OpenSpec.ofChange lawS6261AWholeWrong)

/-- 'dcz.LawS6261AStream': WHATEVER THE INPUT: true; the input reads as it did. -/
def lawS6261AStreamSpec : ChangeSpec := { name := "lawS6261AStream", fn := fun _ => fun
  | [d1, d2] => { results := [.lit (.bool true)], args := [d1, d2] }
  | _ => none }
def lawS6261AStreamRow : OpenClaim := { program := "ybulkdyqi", sum := "a34041f706dd709d4ef3261dea5b6117f6f885af73ff4d2846af3d905bb27df1", func := "example.com/deltagram/deltagram/dcz.LawS6261AStream", spec := "lawS6261AStream", apart := false }
def LawS6261AStreamSaid : Prop := lawS6261AStreamRow.holds Yba.pinned (OpenSpec.ofChange lawS6261AStreamSpec)

/-- ITS FALSE NEIGHBOUR: 'it returns false'. Refute it at one input. -/
def lawS6261AStreamWrong : ChangeSpec := { name := "lawS6261AStream", fn := fun _ => fun
  | [d1, d2] => { results := [.lit (.bool false)], args := [d1, d2] }
  | _ => none }
def LawS6261AStreamWrongFalsely : Prop := lawS6261AStreamRow.holds Yba.pinned (OpenSpec.ofChange lawS6261AStreamWrong)

end Rows
end Go.Proofs.Ybulkdyqi
