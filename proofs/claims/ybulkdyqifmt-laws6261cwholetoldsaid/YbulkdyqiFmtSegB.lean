/-
  THE WALK of '(*decoder).segment': the plain ways, and the refusals at the target.
-/
import Derived.Test.YbulkdyqiFmtSeg
import Derived.Stop.Asserts
namespace Go.Proofs.YbulkdyqiFmt
open Go.RowKit Go.Extern.Stop Go.Stop Go.Extern

set_option maxRecDepth 100000

theorem seg_C (db : Nat) (ind n pos : Int) (w : World) (hI : (bits BinOp.and IntKind.u8 ind 1 != 0) = false) (hI2 : (bits BinOp.and IntKind.u8 ind 2 != 0) = false) :
    Calls Ybaf.prog 6 #[.pointer (some ⟨db, 0, none⟩), .int .u8 ind, .int .i64 n, .int .i64 pos] w fun e w' => e = .returned (.tuple #[.slice none 0 0, .nilIface]) ∧ w' = w := by
  go_enter Ybaf.func6, Ybaf.ntmps6
  go_wp2
  go_ret2
  exact ⟨rfl, rfl⟩

/-- The base's own bytes are handed on. -/
def GotBase (bg pos n : Nat) (w : World) (e : Ending) (w' : World) : Prop :=
  ∃ ga gc, e = .returned (.tuple #[.slice (some ga) n gc, .nilIface]) ∧ w' = w ∧ (0 < n → ga = ⟨bg, pos, none⟩)

set_option maxHeartbeats 1000000 in
theorem seg_A2_some (db bg bl bc : Nat) (wv sv : Value) (mw wr wn : Int) (ind : Int) (n pos : Nat) (w : World) (hD : Dc w db (.slice (some ⟨bg, 0, none⟩) bl bc) wv mw wr wn sv)
    (hI : (bits BinOp.and IntKind.u8 ind 1 != 0) = true) (hbl : bl ≤ 1048576) (hbc : bl ≤ bc) (hbm : bc ≤ 9223372036854775807) (hr : pos + n ≤ bl) :
    Calls Ybaf.prog 6 #[.pointer (some ⟨db, 0, none⟩), .int .u8 ind, .int .i64 n, .int .i64 pos] w (GotBase bg pos n w) := by
  obtain ⟨c0, c1, c2, c3, c5, c6, c7, c17, c18, f17⟩ := hD.cells
  have h1 : ¬ (bl : Int) < (pos : Int) := by omega
  have h2 : ¬ (bl : Int) - (pos : Int) < (n : Int) := by omega
  have h3 : (pos : Int) + (n : Int) ≤ (bc : Int) := by omega
  have h4 : 0 ≤ (pos : Int) := by omega
  have h5 : (pos : Int) + (n : Int) ≤ 1048576 := by omega
  by_cases hcp : bc = pos
  · have hn : n = 0 := by omega
    go_enter Ybaf.func6, Ybaf.ntmps6
    go_wp2
    go_ret2
    exact ⟨_, _, rfl, rfl, fun h => by omega⟩
  · go_enter Ybaf.func6, Ybaf.ntmps6
    go_wp2
    go_ret2
    exact ⟨_, _, rfl, rfl, fun _ => rfl⟩

theorem seg_A2_nil (db : Nat) (wv sv : Value) (mw wr wn : Int) (ind : Int) (w : World) (hD : Dc w db (.slice none 0 0) wv mw wr wn sv)
    (hI : (bits BinOp.and IntKind.u8 ind 1 != 0) = true) :
    Calls Ybaf.prog 6 #[.pointer (some ⟨db, 0, none⟩), .int .u8 ind, .int .i64 0, .int .i64 0] w fun e w' => e = .returned (.tuple #[.slice none 0 0, .nilIface]) ∧ w' = w := by
  obtain ⟨c0, c1, c2, c3, c5, c6, c7, c17, c18, f17⟩ := hD.cells
  go_enter Ybaf.func6, Ybaf.ntmps6
  go_wp2
  go_ret2
  exact ⟨rfl, rfl⟩

theorem fmtT : FmtStop.printed? ⟨#[97, 32, 115, 101, 103, 109, 101, 110, 116, 32, 111, 102, 32, 37, 100, 32, 98, 121, 116, 101, 115, 32, 97, 116, 32, 37, 100, 32, 111, 102, 32, 116, 104, 101, 32, 37, 100, 32, 100, 101, 99, 111, 100, 101, 100]⟩ 3 = some [(0, 100, false), (1, 100, false), (2, 100, false)] := by kernel_rfl

set_option maxHeartbeats 1000000 in
theorem seg_B1 (F : Interp) (db : Nat) (bv wv sv : Value) (mw wr wn : Int) (ind : Int) (n pos : Nat) (a0 a1 a2 : Addr) (w : World) (hF : F.answers w.tape) (hS : Sent a0 a1 a2 w) (hD : Dc w db bv wv mw wr wn sv)
    (hI : (bits BinOp.and IntKind.u8 ind 1 != 0) = false) (hI2 : (bits BinOp.and IntKind.u8 ind 2 != 0) = true) (hn : n ≤ 1048576) (hp : (pos : Int) ≤ 9223372036854775807) (hr : wr < (pos : Int) ∨ wr - (pos : Int) < (n : Int)) :
    Calls Ybaf.prog 6 #[.pointer (some ⟨db, 0, none⟩), .int .u8 ind, .int .i64 n, .int .i64 pos] w (Refused a0 w) := by
  obtain ⟨c0, c1, c2, c3, c5, c6, c7, c17, c18, f17⟩ := hD.cells
  have hn' : (n : Int) ≤ 1048576 := by omega
  have hpos : 0 ≤ (pos : Int) := by omega
  by_cases h1 : wr < (pos : Int)
  · go_enter Ybaf.func6, Ybaf.ntmps6
    go_wp2_with (go_at_call 9; refine (malformed_at F _ db _ _ _ wn a0 a1 a2 w hF hS fmtT c7).mono ?_; rintro e w' ⟨N, rfl, hN, hc, hbel⟩)
    go_ret2
    exact ⟨N, rfl, hN, hc, hbel⟩
  · have h2 : wr - (pos : Int) < (n : Int) := by omega
    go_enter Ybaf.func6, Ybaf.ntmps6
    go_wp2_with (go_at_call 9; refine (malformed_at F _ db _ _ _ wn a0 a1 a2 w hF hS fmtT c7).mono ?_; rintro e w' ⟨N, rfl, hN, hc, hbel⟩)
    go_ret2
    exact ⟨N, rfl, hN, hc, hbel⟩

end Go.Proofs.YbulkdyqiFmt
