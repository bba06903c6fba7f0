/-
  THE WALK of '(*decoder).segment': the two refusals by fmt.Errorf.
-/
import Derived.Test.YbulkdyqiFmtSegB
namespace Go.Proofs.YbulkdyqiFmt
open Go.RowKit Go.Extern.Stop Go.Stop Go.Extern
set_option maxRecDepth 100000

theorem fmt2 (w : World) : (FmtDoors.printed ⟨([37, 119, 58, 32, 119, 105, 110, 100, 111, 119, 32, 37, 100, 32, 99, 111, 112, 105, 101, 115, 32, 97, 32, 115, 101, 103, 109, 101, 110, 116, 32, 111, 102, 32, 37].append [100, 32, 98, 121, 116, 101, 115, 44, 32, 112, 97, 115, 116, 32, 116, 104, 101, 32, 119, 105, 110, 100, 111, 119, 32, 98, 111, 117, 110, 100, 32, 111, 102, 32, 37, 100]).toArray⟩ 4).run Ybaf.prog w = .ok [(0, 119, false), (1, 100, false), (2, 100, false), (3, 100, false)] w := by kernel_rfl
theorem fmt3 (w : World) : (FmtDoors.printed ⟨([37, 119, 58, 32, 119, 105, 110, 100, 111, 119, 32, 37, 100, 32, 99, 111, 112, 105, 101, 115, 32, 102, 114, 111, 109, 32, 116, 104, 101, 32, 116, 97, 114, 103, 101, 116, 32, 97, 108, 114, 101, 97, 100, 121].append [32, 100, 101, 99, 111, 100, 101, 100, 44, 32, 119, 104, 105, 99, 104, 32, 116, 104, 105, 115, 32, 111, 117, 116, 112, 117, 116, 32, 99, 97, 110, 110, 111, 116, 32, 114, 101, 97, 100, 32, 98, 97, 99, 107]).toArray⟩ 2).run Ybaf.prog w = .ok [(0, 119, false), (1, 100, false)] w := by kernel_rfl

set_option maxHeartbeats 1000000 in
theorem seg_B2 (F : Interp) (db : Nat) (bv wv sv : Value) (mw wr wn : Int) (ind : Int) (n pos : Nat) (a0 a1 a2 : Addr) (w : World) (hF : F.answers w.tape) (hS : Sent a0 a1 a2 w) (hD : Dc w db bv wv mw wr wn sv)
    (hI : (bits BinOp.and IntKind.u8 ind 1 != 0) = false) (hI2 : (bits BinOp.and IntKind.u8 ind 2 != 0) = true) (hn : n ≤ 1048576) (hwr : wr ≤ 9223372036854775807) (hr : (pos : Int) ≤ wr ∧ (n : Int) ≤ wr - (pos : Int)) (hm : mw < (n : Int)) :
    Calls Ybaf.prog 6 #[.pointer (some ⟨db, 0, none⟩), .int .u8 ind, .int .i64 n, .int .i64 pos] w (Refused a1 w) := by
  obtain ⟨c0, c1, c2, c3, c5, c6, c7, c17, c18, f17⟩ := hD.cells
  obtain ⟨s1, hs1⟩ := hS.s1
  have hg1 := hS.g1
  have hn' : (n : Int) ≤ 1048576 := by omega
  have hpos : 0 ≤ (pos : Int) := by omega
  have h1 : ¬ wr < (pos : Int) := by omega
  have h2 : ¬ wr - (pos : Int) < (n : Int) := by omega
  have ha : a1.block < w.heap.size := World.block_lt_of_cell? _ _ hs1
  have hE1 : Below w.heap.size w ((w.alloc (.cells #[.iface 50 (.pointer (some a1)), .iface 3 (.int .i64 wn), .iface 3 (.int .i64 n), .iface 3 (.int .i64 mw)] 20)).drew) := ((Below.refl _ w).alloc (Nat.le_refl _) _).drew
  have hE2 : ((w.alloc (.cells #[.iface 50 (.pointer (some a1)), .iface 3 (.int .i64 wn), .iface 3 (.int .i64 n), .iface 3 (.int .i64 mw)] 20)).drew).heap.size = w.heap.size + 1 := by simp
  have hE3 : ((w.alloc (.cells #[.iface 50 (.pointer (some a1)), .iface 3 (.int .i64 wn), .iface 3 (.int .i64 n), .iface 3 (.int .i64 mw)] 20)).drew).heap[w.heap.size]? = some (.cells (([.iface 50 (.pointer (some a1)), .iface 3 (.int .i64 wn), .iface 3 (.int .i64 n), .iface 3 (.int .i64 mw)] : List Value).toArray) 20 (0, 0)) := heap_alloc_new w _
  have hE4 : ∃ rs, (FmtStop.readAll "fmt.errorf" true [.iface 50 (.pointer (some a1)), .iface 3 (.int .i64 wn), .iface 3 (.int .i64 n), .iface 3 (.int .i64 mw)] [(0, 119, false), (1, 100, false), (2, 100, false), (3, 100, false)]).run Ybaf.prog ((w.alloc (.cells #[.iface 50 (.pointer (some a1)), .iface 3 (.int .i64 wn), .iface 3 (.int .i64 n), .iface 3 (.int .i64 mw)] 20)).drew) = .ok rs ((w.alloc (.cells #[.iface 50 (.pointer (some a1)), .iface 3 (.int .i64 wn), .iface 3 (.int .i64 n), .iface 3 (.int .i64 mw)] 20)).drew) := by
    obtain ⟨sh, h50⟩ := op50 "fmt.errorf" a1 s1 ((w.alloc (.cells #[.iface 50 (.pointer (some a1)), .iface 3 (.int .i64 wn), .iface 3 (.int .i64 n), .iface 3 (.int .i64 mw)] 20)).drew) (by rw [hE1.cell (p := a1) ha]; exact hs1)
    exact ⟨_, by simp [FmtStop.readAll, op3, h50]; rfl⟩
  clear hs1
  go_enter Ybaf.func6, Ybaf.ntmps6
  go_wp2
  go_region_with (go_at_call 10; refine (Errorf_at F _ [.iface 50 (.pointer (some a1)), .iface 3 (.int .i64 wn), .iface 3 (.int .i64 n), .iface 3 (.int .i64 mw)] _ 0 a1 4 w _ rfl (by simp) hE1 hE2 hE3 hF (fmt2 _) hE4 rfl rfl).mono ?_; rintro e w' ⟨N, rfl, hN, hc, hbel⟩)
  all_goals
    go_wp2
    go_ret2
    exact ⟨N, rfl, hN, hc, hbel⟩

theorem noReadAt (v : Value) (xT : TypeId) (w : World) : (Instr.typeAssert (.iface 34 v) xT 55 true).run Ybaf.prog w = .ok (.tuple #[.nilIface, .bool false]) w := run_typeAssert_lacksB Ybaf.underlying55 (by kernel_rfl) (by kernel_rfl) v xT w
theorem hasReadAt (v : Value) (xT : TypeId) (w : World) : (Instr.typeAssert (.iface 27 v) xT 55 true).run Ybaf.prog w = .ok (.tuple #[.iface 27 v, .bool true]) w := run_typeAssert_hasB Ybaf.underlying55 (by kernel_rfl) v xT w

set_option maxHeartbeats 1000000 in
theorem seg_B3 (F : Interp) (db : Nat) (bv pv sv : Value) (mw wr wn : Int) (ind : Int) (n pos : Nat) (a0 a1 a2 : Addr) (w : World) (hF : F.answers w.tape) (hS : Sent a0 a1 a2 w) (hD : Dc w db bv (.iface 34 pv) mw wr wn sv)
    (hI : (bits BinOp.and IntKind.u8 ind 1 != 0) = false) (hI2 : (bits BinOp.and IntKind.u8 ind 2 != 0) = true) (hn : n ≤ 1048576) (hwr : wr ≤ 9223372036854775807) (hr : (pos : Int) ≤ wr ∧ (n : Int) ≤ wr - (pos : Int)) (hm : (n : Int) ≤ mw) :
    Calls Ybaf.prog 6 #[.pointer (some ⟨db, 0, none⟩), .int .u8 ind, .int .i64 n, .int .i64 pos] w (Refused a2 w) := by
  obtain ⟨c0, c1, c2, c3, c5, c6, c7, c17, c18, f17⟩ := hD.cells
  obtain ⟨s2, hs2⟩ := hS.s2
  have hg2 := hS.g2
  have hn' : (n : Int) ≤ 1048576 := by omega
  have hpos : 0 ≤ (pos : Int) := by omega
  have h1 : ¬ wr < (pos : Int) := by omega
  have h2 : ¬ wr - (pos : Int) < (n : Int) := by omega
  have h3 : ¬ mw < (n : Int) := by omega
  have ha : a2.block < w.heap.size := World.block_lt_of_cell? _ _ hs2
  have hnr := noReadAt pv 33
  have hE1 : Below w.heap.size w ((w.alloc (.cells #[.iface 50 (.pointer (some a2)), .iface 3 (.int .i64 wn)] 20)).drew) := ((Below.refl _ w).alloc (Nat.le_refl _) _).drew
  have hE2 : ((w.alloc (.cells #[.iface 50 (.pointer (some a2)), .iface 3 (.int .i64 wn)] 20)).drew).heap.size = w.heap.size + 1 := by simp
  have hE3 : ((w.alloc (.cells #[.iface 50 (.pointer (some a2)), .iface 3 (.int .i64 wn)] 20)).drew).heap[w.heap.size]? = some (.cells (([.iface 50 (.pointer (some a2)), .iface 3 (.int .i64 wn)] : List Value).toArray) 20 (0, 0)) := heap_alloc_new w _
  have hE4 : ∃ rs, (FmtStop.readAll "fmt.errorf" true [.iface 50 (.pointer (some a2)), .iface 3 (.int .i64 wn)] [(0, 119, false), (1, 100, false)]).run Ybaf.prog ((w.alloc (.cells #[.iface 50 (.pointer (some a2)), .iface 3 (.int .i64 wn)] 20)).drew) = .ok rs ((w.alloc (.cells #[.iface 50 (.pointer (some a2)), .iface 3 (.int .i64 wn)] 20)).drew) := by
    obtain ⟨sh, h50⟩ := op50 "fmt.errorf" a2 s2 ((w.alloc (.cells #[.iface 50 (.pointer (some a2)), .iface 3 (.int .i64 wn)] 20)).drew) (by rw [hE1.cell (p := a2) ha]; exact hs2)
    exact ⟨_, by simp [FmtStop.readAll, op3, h50]; rfl⟩
  clear hs2
  go_enter Ybaf.func6, Ybaf.ntmps6
  go_wp2
  go_region_with (go_at_call 10; refine (Errorf_at F _ [.iface 50 (.pointer (some a2)), .iface 3 (.int .i64 wn)] _ 0 a2 2 w _ rfl (by simp) hE1 hE2 hE3 hF (fmt3 _) hE4 rfl rfl).mono ?_; rintro e w' ⟨N, rfl, hN, hc, hbel⟩)
  all_goals
    go_wp2
    go_ret2
    exact ⟨N, rfl, hN, hc, hbel⟩

end Go.Proofs.YbulkdyqiFmt
