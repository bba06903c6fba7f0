/-
  fmt's STOPPED FRONTS at this seat's dump, by contracts: whatever the text: fmt.Sprintf gives some string, fmt.Errorf with one %w a new *fmt.wrapError that holds the wrapped error.
-/
import Derived.Test.YbulkdyqiFmtRows
import Derived.WalkKit
import Derived.WalkSpells
import Derived.WalkSmall
import Derived.BigCall
import Derived.Stop.CallBack
import Derived.Stop.IfaceNil
import Derived.Deep.RegionWith
namespace Go.Proofs.YbulkdyqiFmt
open Go.RowKit Go.Extern.Stop Go.Stop Go.Extern

theorem Ybaf.call14 (args : Array Value) (w : World) : (callFunc 14 args).run Ybaf.prog w = ((FmtStop.sprintf #[9, 65] #[9] args).run Ybaf.prog w).andThen fun v w' => .ok (.value v) w' :=
  run_callFunc_extern Ybaf.func14 (by kernel_rfl) (by kernel_rfl) (by kernel_rfl) (by kernel_rfl) args w
theorem Ybaf.call15 (args : Array Value) (w : World) : (callFunc 15 args).run Ybaf.prog w = ((FmtStop.errorf #[9, 65] #[24] args).run Ybaf.prog w).andThen fun v w' => .ok (.value v) w' :=
  run_callFunc_extern Ybaf.func15 (by kernel_rfl) (by kernel_rfl) (by kernel_rfl) (by kernel_rfl) args w
theorem Ybaf.guard (name : String) (w : World) : (FmtStop.guard name).run Ybaf.prog w = .ok () w := by kernel_rfl
theorem Ybaf.ptr67 (w : World) : (FmtStop.ptrTo "fmt.wrapError").run Ybaf.prog w = .ok 67 w := by kernel_rfl
theorem Ybaf.elem67 (w : World) : (elemOf 67).run Ybaf.prog w = .ok 108 w := by kernel_rfl
theorem Ybaf.isError50 (w : World) : (FmtDoors.textMethod 50 "Error").run Ybaf.prog w = .ok true w := by kernel_rfl

/-- The text of a stop: some string, one draw; the same in every world of one tape. -/
theorem text_any (F : Interp) (name : String) (head : List (List UInt8)) (ops : List (List UInt8 × List UInt8)) (w : World) (hF : F.answers w.tape) :
    (FmtStop.text name head ops).run Ybaf.prog w = .ok (.string (FmtStop.textOf (F name (head ++ ops.flatMap fun (ty, v) => [ty, v]) 0))) w.drew := by
  have hF' := answers_open hF
  simp [FmtStop.text, hF', FmtStop.str, FmtStop.textOf, Question.forced, Question.cut]

/-- fmt.Sprintf, as a row of the model: some string, whatever the world of this tape. -/
theorem sprintf_run (F : Interp) (f : ByteArray) (b c : Nat) (vs : List Value) (ps : List (Nat × UInt8 × Bool)) (rs : List (List UInt8 × List UInt8)) (w : World) (hF : F.answers w.tape)
    (hc : ∀ j v, vs[j]? = some v → w.cell? ((⟨b, 0, none⟩ : Addr).add j) = some v) (hp : FmtStop.printed? f vs.length = some ps) (hr : (FmtStop.readAll "fmt.Sprintf" false vs ps).run Ybaf.prog w = .ok rs w) :
    (callFunc 14 #[.string f, .slice (some ⟨b, 0, none⟩) vs.length c]).run Ybaf.prog w = .ok (.value (.string (FmtStop.textOf (F "fmt.Sprintf" ([f.data.toList] ++ rs.flatMap fun (ty, v) => [ty, v]) 0)))) w.drew := by
  have hl := run_loadCells_list (P := Ybaf.prog) w ⟨b, 0, none⟩ vs hc
  have ht := text_any F "fmt.Sprintf" [f.data.toList] rs w hF
  rw [Ybaf.call14, FmtStop.sprintf_lit]
  simp [Ybaf.guard, FmtStop.cells, hl, hp, hr, ht]

/-- fmt.errorf with one %w at an error of errors.New's make. -/
theorem errorf_run (F : Interp) (f : ByteArray) (b c : Nat) (vs : List Value) (ps : List (Nat × UInt8 × Bool)) (rs : List (List UInt8 × List UInt8)) (i : Nat) (vb : UInt8) (sh : Bool) (a : Addr) (w : World) (hF : F.answers w.tape)
    (hc : ∀ j v, vs[j]? = some v → w.cell? ((⟨b, 0, none⟩ : Addr).add j) = some v) (hne : vs ≠ []) (hp : (FmtDoors.printed f vs.length).run Ybaf.prog w = .ok ps w) (hr : (FmtStop.readAll "fmt.errorf" true vs ps).run Ybaf.prog w = .ok rs w)
    (hw : ps.filter (·.2.1 == 119) = [(i, vb, sh)]) (hi : vs[i]? = some (.iface 50 (.pointer (some a)))) :
    (callFunc 15 #[.string f, .slice (some ⟨b, 0, none⟩) vs.length c]).run Ybaf.prog w = .ok (.value (.iface 67 (.pointer (some ⟨w.heap.size, 0, none⟩)))) ((w.drew).alloc (.cells #[.string (FmtStop.textOf (F "fmt.errorf" ([f.data.toList] ++ rs.flatMap fun (ty, v) => [ty, v]) 0)), .iface 50 (.pointer (some a))] 108)) := by
  have hl := run_loadCells_list (P := Ybaf.prog) w ⟨b, 0, none⟩ vs hc
  have ht := text_any F "fmt.errorf" [f.data.toList] rs w hF
  rw [Ybaf.call15, FmtStop.errorf_lit]
  simp [Ybaf.guard, FmtStop.cells, hl, hp, hr, ht, hw, hi, Ybaf.ptr67, Ybaf.elem67, Ybaf.isError50, newVar, newRow, Value.cells]
  intro h; exact absurd h hne

/-- fmt.Errorf, Go's own text over the stop. -/
theorem Errorf_any (F : Interp) (f : ByteArray) (b : Nat) (vs : List Value) (ps : List (Nat × UInt8 × Bool)) (rs : List (List UInt8 × List UInt8)) (i : Nat) (vb : UInt8) (sh : Bool) (a : Addr) (n : Nat) (w : World) (hn : vs.length = n) (hF : F.answers w.tape)
    (hc : ∀ j v, vs[j]? = some v → w.cell? ((⟨b, 0, none⟩ : Addr).add j) = some v) (hne : vs ≠ []) (hp : (FmtDoors.printed f vs.length).run Ybaf.prog w = .ok ps w) (hr : (FmtStop.readAll "fmt.errorf" true vs ps).run Ybaf.prog w = .ok rs w)
    (hw : ps.filter (·.2.1 == 119) = [(i, vb, sh)]) (hi : vs[i]? = some (.iface 50 (.pointer (some a)))) :
    Calls Ybaf.prog 10 #[.string f, .slice (some ⟨b, 0, none⟩) n n] w fun e w' => e = .returned (.iface 67 (.pointer (some ⟨w.heap.size, 0, none⟩))) ∧ w'.cell? ⟨w.heap.size, 0 + 1, none⟩ = some (.iface 50 (.pointer (some a))) ∧ w'.heap.size = w.heap.size + 1 ∧ Below w.heap.size w w' := by
  subst hn
  have h15 := errorf_run F f b vs.length vs ps rs i vb sh a w hF hc hne hp hr hw hi
  clear hp hr hw hi hne hc
  go_enter Ybaf.func10, Ybaf.ntmps10
  go_wp2
  go_ret
  exact ⟨rfl, by simp, by simp, ((Below.refl _ w).alloc (Nat.le_refl _) _).drew⟩

/-! ### What each operand reads as -/
def sh3 : List UInt8 := [5, 3, 0, 0, 0, 0, 0, 0, 0, 105, 110, 116]
def sh9 : List UInt8 := [12, 6, 0, 0, 0, 0, 0, 0, 0, 115, 116, 114, 105, 110, 103]
theorem op3 (name : String) (wr : Bool) (x : Int) (w : World) : (FmtStop.operand name wr 100 false (.iface 3 (.int .i64 x))).run Ybaf.prog w = .ok (sh3, digits 8 (x % 2 ^ 64).toNat) w := by
  cases wr <;> kernel_rfl
theorem op9 (name : String) (s : ByteArray) (w : World) : (FmtStop.operand name true 115 false (.iface 9 (.string s))).run Ybaf.prog w = .ok (sh9, FmtStop.pack s.data.toList) w := by kernel_rfl
theorem op50 (name : String) (a : Addr) (s : ByteArray) (w : World) (hc : w.cell? a = some (.string s)) :
    ∃ sh, (FmtStop.operand name true 119 false (.iface 50 (.pointer (some a)))).run Ybaf.prog w = .ok (sh, s.data.toList) w := by
  obtain ⟨nm, h1⟩ : ∃ nm, (typeStr 50).run Ybaf.prog w = .ok nm w := ⟨Ybaf.t50.str, by kernel_rfl⟩
  have d2 : Ybaf.t50.desc = .pointer 52 := rfl
  have d3 : Ybaf.t52.desc = .named "errors.errorString" 51 := rfl
  exact ⟨14 :: FmtStop.pack nm.toUTF8.data.toList, by simp [FmtStop.operand, h1, d2, d3, run_load, hc]⟩

end Go.Proofs.YbulkdyqiFmt
