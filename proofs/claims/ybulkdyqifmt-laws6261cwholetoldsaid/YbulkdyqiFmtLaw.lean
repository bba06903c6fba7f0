/-
  LawS6261CWhole: all its ways in one.
-/
import Derived.Test.YbulkdyqiFmtLawB
import Derived.Test.YbulkdyqiFmtLawC
import Derived.Test.YbulkdyqiFmtLawD
import Derived.Test.YbulkdyqiFmtLawE
import Derived.Test.YbulkdyqiFmtLawF
namespace Go.Proofs.YbulkdyqiFmt
open Go.RowKit Go.Extern.Stop Go.Stop Go.Extern
set_option maxRecDepth 100000

theorem law_long (ind n pos wr mw wn : Int) (pb pt ps : Option Addr) (bl bc tl tc sl sc : Nat) (rd fail : Bool) (w : World) (h : 1048576 < bl ∨ 1048576 < tl ∨ 1048576 < sl) :
    Calls Ybaf.prog 3 #[.int .u8 ind, .int .i64 n, .int .i64 pos, .slice pb bl bc, .int .i64 wr, .int .i64 mw, .int .i64 wn, .slice pt tl tc, .bool rd, .bool fail, .slice ps sl sc] w fun e w' => e = .returned (.bool true) ∧ Below w.heap.size w w' := by
  by_cases h1 : 1048576 < bl
  · have h1' : (1048576 : Int) < (bl : Int) := by omega
    go_enter Ybaf.func3, Ybaf.ntmps3
    go_wp2
    go_ret
    exact ⟨rfl, Below.refl _ _⟩
  · have h1' : ¬ (1048576 : Int) < (bl : Int) := by omega
    by_cases h2 : 1048576 < tl
    · have h2' : (1048576 : Int) < (tl : Int) := by omega
      go_enter Ybaf.func3, Ybaf.ntmps3
      go_wp2
      go_ret
      exact ⟨rfl, Below.refl _ _⟩
    · have h2' : ¬ (1048576 : Int) < (tl : Int) := by omega
      have h3' : (1048576 : Int) < (sl : Int) := by omega
      go_enter Ybaf.func3, Ybaf.ntmps3
      go_wp2
      go_ret
      exact ⟨rfl, Below.refl _ _⟩

theorem law_out (ind n pos wr mw wn : Int) (pb pt ps : Option Addr) (bl bc tl tc sl sc : Nat) (rd fail : Bool) (w : World) (hb : ¬ 1048576 < bl) (ht : ¬ 1048576 < tl) (hs : ¬ 1048576 < sl) (h : n < 0 ∨ pos < 0 ∨ 1048576 < n) :
    Calls Ybaf.prog 3 #[.int .u8 ind, .int .i64 n, .int .i64 pos, .slice pb bl bc, .int .i64 wr, .int .i64 mw, .int .i64 wn, .slice pt tl tc, .bool rd, .bool fail, .slice ps sl sc] w fun e w' => e = .returned (.bool true) ∧ Below w.heap.size w w' := by
  have hb' : ¬ (1048576 : Int) < (bl : Int) := by omega
  have ht' : ¬ (1048576 : Int) < (tl : Int) := by omega
  have hs' : ¬ (1048576 : Int) < (sl : Int) := by omega
  by_cases h1 : n < 0
  · go_enter Ybaf.func3, Ybaf.ntmps3
    go_wp2
    go_ret
    exact ⟨rfl, Below.refl _ _⟩
  · by_cases h2 : pos < 0
    · go_enter Ybaf.func3, Ybaf.ntmps3
      go_wp2
      go_ret
      exact ⟨rfl, Below.refl _ _⟩
    · have h3 : 1048576 < n := by omega
      go_enter Ybaf.func3, Ybaf.ntmps3
      go_wp2
      go_ret
      exact ⟨rfl, Below.refl _ _⟩

theorem law_any (F : Interp) (ind n pos wr mw wn : Int) (pb pt ps : Option Addr) (bl bc tl tc sl sc : Nat) (bs ts ss : List Int) (rd fail : Bool) (a0 a1 a2 : Addr) (w : World)
    (hF : F.answers w.tape) (hS : Sent a0 a1 a2 w) (hB : Has w pb bl bs) (hT : Has w pt tl ts) (hX : Has w ps sl ss) (nB : pb = none → bl = 0 ∧ bc = 0) (nT : pt = none → tl = 0 ∧ tc = 0) (nX : ps = none → sl = 0 ∧ sc = 0)
    (cB : bl ≤ bc) (cT : tl ≤ tc) (mB : bc ≤ 9223372036854775807) (mT : tc ≤ 9223372036854775807) (hp : pos ≤ 9223372036854775807) (hwr : wr ≤ 9223372036854775807) (hv : ∀ j, j < bl → 0 ≤ bs.getD j 0 ∧ bs.getD j 0 ≤ 255) :
    Calls Ybaf.prog 3 #[.int .u8 ind, .int .i64 n, .int .i64 pos, .slice pb bl bc, .int .i64 wr, .int .i64 mw, .int .i64 wn, .slice pt tl tc, .bool rd, .bool fail, .slice ps sl sc] w fun e w' => e = .returned (.bool true) ∧ Below w.heap.size w w' := by
  by_cases hlong : 1048576 < bl ∨ 1048576 < tl ∨ 1048576 < sl
  · exact law_long ind n pos wr mw wn pb pt ps bl bc tl tc sl sc rd fail w hlong
  · have lb : bl ≤ 1048576 := by omega
    have lt : tl ≤ 1048576 := by omega
    have ls : sl ≤ 1048576 := by omega
    by_cases hout : n < 0 ∨ pos < 0 ∨ 1048576 < n
    · exact law_out ind n pos wr mw wn pb pt ps bl bc tl tc sl sc rd fail w (by omega) (by omega) (by omega) hout
    · obtain ⟨n, rfl⟩ : ∃ m : Nat, n = m := ⟨n.toNat, by omega⟩
      obtain ⟨pos, rfl⟩ : ∃ m : Nat, pos = m := ⟨pos.toNat, by omega⟩
      have H : In F n pos pb pt ps bl bc tl tc sl sc bs ts ss wr mw a0 a1 a2 w := ⟨hF, hS, hB, hT, hX, nB, nT, nX, lb, lt, ls, by omega, hp, hwr, cB, cT, mB, mT⟩
      cases hI : (bits BinOp.and IntKind.u8 ind 1 != 0) with
      | true =>
        by_cases hr : bl < pos + n
        · cases rd with
          | true => exact law_A1_r F ind n pos pb pt ps bl bc tl tc sl sc bs ts ss wr mw wn fail a0 a1 a2 w H hI hr
          | false => exact law_A1_u F ind n pos pb pt ps bl bc tl tc sl sc bs ts ss wr mw wn fail a0 a1 a2 w H hI hr
        · by_cases hz : 0 < n
          · cases rd with
            | true => exact law_A2p_r F ind n pos pb pt ps bl bc tl tc sl sc bs ts ss wr mw wn fail a0 a1 a2 w H hI (by omega) hz (hv pos (by omega))
            | false => exact law_A2p_u F ind n pos pb pt ps bl bc tl tc sl sc bs ts ss wr mw wn fail a0 a1 a2 w H hI (by omega) hz (hv pos (by omega))
          · cases rd with
            | true => exact law_A2z_r F ind n pos pb pt ps bl bc tl tc sl sc bs ts ss wr mw wn fail a0 a1 a2 w H hI (by omega) hz
            | false => exact law_A2z_u F ind n pos pb pt ps bl bc tl tc sl sc bs ts ss wr mw wn fail a0 a1 a2 w H hI (by omega) hz
      | false =>
        cases hI2 : (bits BinOp.and IntKind.u8 ind 2 != 0) with
        | false =>
          cases rd with
          | true => exact law_C_r F ind n pos pb pt ps bl bc tl tc sl sc bs ts ss wr mw wn fail a0 a1 a2 w H hI hI2
          | false => exact law_C_u F ind n pos pb pt ps bl bc tl tc sl sc bs ts ss wr mw wn fail a0 a1 a2 w H hI hI2
        | true =>
          by_cases hr : wr < (pos : Int) ∨ wr - (pos : Int) < (n : Int)
          · cases rd with
            | true => exact law_B1_r F ind n pos pb pt ps bl bc tl tc sl sc bs ts ss wr mw wn fail a0 a1 a2 w H hI hI2 hr
            | false => exact law_B1_u F ind n pos pb pt ps bl bc tl tc sl sc bs ts ss wr mw wn fail a0 a1 a2 w H hI hI2 hr
          · have hr' : (pos : Int) ≤ wr ∧ (n : Int) ≤ wr - (pos : Int) := by omega
            by_cases hm : mw < (n : Int)
            · cases rd with
              | true => exact law_B2_r F ind n pos pb pt ps bl bc tl tc sl sc bs ts ss wr mw wn fail a0 a1 a2 w H hI hI2 hr' hm
              | false => exact law_B2_u F ind n pos pb pt ps bl bc tl tc sl sc bs ts ss wr mw wn fail a0 a1 a2 w H hI hI2 hr' hm
            · cases rd with
              | true => exact law_B4_r F ind n pos pb pt ps bl bc tl tc sl sc bs ts ss wr mw wn fail a0 a1 a2 w H hI hI2 hr' (by omega)
              | false => exact law_B3_u F ind n pos pb pt ps bl bc tl tc sl sc bs ts ss wr mw wn fail a0 a1 a2 w H hI hI2 hr' (by omega)

end Go.Proofs.YbulkdyqiFmt
