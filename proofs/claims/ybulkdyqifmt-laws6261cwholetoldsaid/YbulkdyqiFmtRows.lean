/-
  NARROWER THAN 'FOR EVERY INPUT', by the rows' own cells (each row's printed sentence says how): LawS6261CWhole: ifaces, laid.
  DERIVED. THE GIVEN ROWS OF THIS SEAT. 1 by the template 'for every input the law returns true; each argument reads behind the call as it read before'; 0 by the template 'total and deterministic' (their statements: YbulkdyqiFmtTotals.lean).
  GIVEN WITH THE SEED: the statements are not yours to turn. If you find one false, say at which input.
  Laid BY PROGRAM, IN A SANDBOX (cutbox-rows.mjs): the forced cells as the released guide's own fill.sh prints them over the translation aca4aa777bdbffdf… (all of the seat's roots in one cut). By AI agents, Wed Nov 11 2026. No macro, syntax, notation, axiom, sorry.
-/
import Derived.Test.YbulkdyqiFmtChecked
import GoSem.Claim
import GoSem.ClaimJoined
import GoSem.ClaimMapViews
import Derived.JoinedTies
import Derived.KernelRfl
namespace Go.Proofs.YbulkdyqiFmt
/- THE CELL 'sum', in the pinned program and in every row, IS THE sha256 OF THE DUMP (.gsa) THAT YbulkdyqiFmtProg.lean LOADS. Nothing in Lean hashes anything: it is a label: what it is worth is what the hold of that sum in a sandbox is worth. -/
noncomputable def Ybaf.pinned : Pinned := { name := "ybulkdyqifmt", sum := "aca4aa777bdbffdfd63af1f4db715fdf849f1a0e1374f094f26a9f974833c9cc", checked := Ybaf.checked }
namespace Rows
def none {H : Type} : Left H := { results := [], args := [] }

/- WHAT THE LISTED PACKAGE-LEVEL VARIABLES READ AS WHEN THE CALL BEGINS. Each datum BY PROGRAM (the guide's laid-datum.mjs) off the statement by which the dump's own 'gosem.cut.vars' lays the variable. In a bare row this is a premise. The card (YbulkdyqiFmtCards.lean) ties it to the program's text. -/
def laid_example_com_deltagram_deltagram_vcdiff_ErrUnsupported {H : Type} : DataW H := .iface "*errors.errorString" (.ptr (.agg [.lit (.string [118, 99, 100, 105, 102, 102, 58, 32, 102, 101, 97, 116, 117, 114, 101, 32, 111, 117, 116, 115, 105, 100, 101, 32, 116, 104, 101, 32, 112, 108, 97, 105, 110, 32, 102, 111, 114, 109])]))
def laid_example_com_deltagram_deltagram_vcdiff_ErrTooLarge {H : Type} : DataW H := .iface "*errors.errorString" (.ptr (.agg [.lit (.string [118, 99, 100, 105, 102, 102, 58, 32, 116, 97, 114, 103, 101, 116, 32, 108, 97, 114, 103, 101, 114, 32, 116, 104, 97, 110, 32, 116, 104, 101, 32, 100, 101, 99, 111, 100, 101, 114, 32, 97, 99, 99, 101, 112, 116, 115])]))
def laid_example_com_deltagram_deltagram_vcdiff_ErrMalformed {H : Type} : DataW H := .iface "*errors.errorString" (.ptr (.agg [.lit (.string [118, 99, 100, 105, 102, 102, 58, 32, 109, 97, 108, 102, 111, 114, 109, 101, 100, 32, 100, 101, 108, 116, 97])]))

/-- 'vcdiff.LawS6261CWhole': WHATEVER THE INPUT: true; the input reads as it did. -/
def lawS6261CWholeSpec : ChangeSpec := { name := "lawS6261CWhole", vars := ["example.com/deltagram/deltagram/vcdiff.ErrMalformed", "example.com/deltagram/deltagram/vcdiff.ErrTooLarge", "example.com/deltagram/deltagram/vcdiff.ErrUnsupported"], fn := fun _ => fun
  | [d1, d2, d3, d4, d5, d6, d7, d8, d9, d10, d11, g1, g2, g3] => { results := [.lit (.bool true)], args := [d1, d2, d3, d4, d5, d6, d7, d8, d9, d10, d11], vars := [g1, g2, g3] }
  | _ => none }
def lawS6261CWholeRow : OpenClaim := { program := "ybulkdyqifmt", sum := "aca4aa777bdbffdfd63af1f4db715fdf849f1a0e1374f094f26a9f974833c9cc", func := "example.com/deltagram/deltagram/vcdiff.LawS6261CWhole", spec := "lawS6261CWhole", stops := ["fmt.Sprintf", "fmt.errorf"], inPlace := ["fmt.Sprintf", "fmt.errorf", "internal/reflectlite.TypeOf"], unfollowed := true, recurses := true, named := ["example.com/deltagram/deltagram/vcdiff.ErrMalformed", "example.com/deltagram/deltagram/vcdiff.ErrTooLarge", "example.com/deltagram/deltagram/vcdiff.ErrUnsupported"], ifaces := true, apart := false, laid := [("example.com/deltagram/deltagram/vcdiff.ErrUnsupported", laid_example_com_deltagram_deltagram_vcdiff_ErrUnsupported), ("example.com/deltagram/deltagram/vcdiff.ErrTooLarge", laid_example_com_deltagram_deltagram_vcdiff_ErrTooLarge), ("example.com/deltagram/deltagram/vcdiff.ErrMalformed", laid_example_com_deltagram_deltagram_vcdiff_ErrMalformed)] }
/-- NO THEOREM (fmt's text is open here; it may be false): for the released tool's asking of the row's closed facts alone. THE STATEMENT IS 'LawS6261CWholeToldSaid' (YbulkdyqiFmtCards.lean). -/
def LawS6261CWholeFormAsk : Prop := lawS6261CWholeRow.holds Ybaf.pinned (OpenSpec.ofChange lawS6261CWholeSpec)

/-- ITS FALSE NEIGHBOUR: 'it returns false'. Refute it at one input. -/
def lawS6261CWholeWrong : ChangeSpec := { name := "lawS6261CWhole", vars := ["example.com/deltagram/deltagram/vcdiff.ErrMalformed", "example.com/deltagram/deltagram/vcdiff.ErrTooLarge", "example.com/deltagram/deltagram/vcdiff.ErrUnsupported"], fn := fun _ => fun
  | [d1, d2, d3, d4, d5, d6, d7, d8, d9, d10, d11, g1, g2, g3] => { results := [.lit (.bool false)], args := [d1, d2, d3, d4, d5, d6, d7, d8, d9, d10, d11], vars := [g1, g2, g3] }
  | _ => none }
def LawS6261CWholeWrongFormAsk : Prop := lawS6261CWholeRow.holds Ybaf.pinned (OpenSpec.ofChange lawS6261CWholeWrong)

end Rows
end Go.Proofs.YbulkdyqiFmt
