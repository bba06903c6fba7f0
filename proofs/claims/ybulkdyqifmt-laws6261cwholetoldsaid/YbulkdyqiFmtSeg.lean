/-
  THE WALK of '(*decoder).segment'.
-/
import Derived.Test.YbulkdyqiFmtMal
import Derived.Test.YbulkdyqiFmtReadA
namespace Go.Proofs.YbulkdyqiFmt
open Go.RowKit Go.Extern.Stop Go.Stop Go.Extern

/-- The decoder's block. -/
def Dc (w : World) (db : Nat) (bv wv : Value) (mw wr wn : Int) (sv : Value) : Prop :=
  w.heap[db]? = some (.cells #[.pointer none, bv, wv, .int .i64 mw, .int .i64 0, .int .i64 0, .int .i64 wr, .int .i64 wn, .slice none 0 0, .int .i64 0, .int .i8 0, .slice none 0 0, .int .i64 0, .int .i8 0, .slice none 0 0, .int .i64 0, .int .i8 0, sv, .slice none 0 0] 44 (0, 0))

structure DcCells (w : World) (db : Nat) (bv wv : Value) (mw wr wn : Int) (sv : Value) : Prop where
  c0 : w.cell? ⟨db, 0, none⟩ = some (.pointer none)
  c1 : w.cell? ⟨db, 1, none⟩ = some bv
  c2 : w.cell? ⟨db, 2, none⟩ = some wv
  c3 : w.cell? ⟨db, 3, none⟩ = some (.int .i64 mw)
  c5 : w.cell? ⟨db, 5, none⟩ = some (.int .i64 0)
  c6 : w.cell? ⟨db, 6, none⟩ = some (.int .i64 wr)
  c7 : w.cell? ⟨db, 7, none⟩ = some (.int .i64 wn)
  c17 : w.cell? ⟨db, 17, none⟩ = some sv
  c18 : w.cell? ⟨db, 18, none⟩ = some (.slice none 0 0)
  f17 : w.frozen? ⟨db, 17, none⟩ = false

theorem Dc.cells {w : World} {db : Nat} {bv wv : Value} {mw wr wn : Int} {sv : Value} (h : Dc w db bv wv mw wr wn sv) : DcCells w db bv wv mw wr wn sv := by
  refine ⟨?_, ?_, ?_, ?_, ?_, ?_, ?_, ?_, ?_, frozen_of_row w db 17 _ 44 h⟩
  all_goals (rw [cell_of_row w db _ _ 44 (0, 0) h]; rfl)
theorem Dc.lt {w : World} {db : Nat} {bv wv : Value} {mw wr wn : Int} {sv : Value} (h : Dc w db bv wv mw wr wn sv) : db < w.heap.size := by
  unfold Dc at h; exact (Array.getElem?_eq_some_iff.1 h).1
theorem Dc.kept {S : Nat → Prop} {w w' : World} {db : Nat} {bv wv : Value} {mw wr wn : Int} {sv : Value} (h : Dc w db bv wv mw wr wn sv) (k : Kept S w w') (hs : ¬ S db) : Dc w' db bv wv mw wr wn sv := by
  have := h.lt
  unfold Dc at h ⊢
  rw [k.block db this hs]; exact h
theorem Dc.seg {w : World} {db : Nat} {bv wv : Value} {mw wr wn : Int} {sv : Value} (h : Dc w db bv wv mw wr wn sv) (u : Value) : Dc (w.setCell ⟨db, 17, none⟩ u) db bv wv mw wr wn u := by
  unfold Dc at h ⊢
  rw [heap_setCell_same w db 17 _ 44 _ h]; rfl

/-- Refused: nil, and an error that wraps the sentinel at 'a'. -/
def Refused (a : Addr) (w : World) (e : Ending) (w' : World) : Prop :=
  ∃ N, e = .returned (.tuple #[.slice none 0 0, .iface 67 (.pointer (some ⟨N, 0, none⟩))]) ∧ w.heap.size ≤ N ∧ w'.cell? ⟨N, 0 + 1, none⟩ = some (.iface 50 (.pointer (some a))) ∧ Below w.heap.size w w'

theorem fmtB : FmtStop.printed? ⟨#[97, 32, 115, 101, 103, 109, 101, 110, 116, 32, 111, 102, 32, 37, 100, 32, 98, 121, 116, 101, 115, 32, 97, 116, 32, 37, 100, 32, 111, 102, 32, 97, 32, 37, 100, 45, 98, 121, 116, 101, 32, 98, 97, 115, 101]⟩ 3 = some [(0, 100, false), (1, 100, false), (2, 100, false)] := by kernel_rfl

/-- 'malformed' behind its variadic block. -/
theorem malformed_at (F : Interp) (f : ByteArray) (db : Nat) (x y z wn : Int) (a0 a1 a2 : Addr) (w : World) (hF : F.answers w.tape) (hS : Sent a0 a1 a2 w)
    (hf : FmtStop.printed? f 3 = some [(0, 100, false), (1, 100, false), (2, 100, false)]) (hw : w.cell? ⟨db, 7, none⟩ = some (.int .i64 wn)) :
    Calls Ybaf.prog 9 #[.pointer (some ⟨db, 0, none⟩), .string f, .slice (some ⟨w.heap.size, 0, none⟩) 3 3] (w.alloc (.cells #[.iface 3 (.int .i64 x), .iface 3 (.int .i64 y), .iface 3 (.int .i64 z)] 20)) (Wraps a0 w) := by
  have hb : Below w.heap.size w (w.alloc (.cells #[.iface 3 (.int .i64 x), .iface 3 (.int .i64 y), .iface 3 (.int .i64 z)] 20)) := (Below.refl _ w).alloc (Nat.le_refl _) _
  have hS' := hS.later (Nat.le_refl _) hb
  obtain ⟨s0, hs0⟩ := hS'.s0
  have hdb := World.block_lt_of_cell? w _ hw
  refine (malformed_any F f db w.heap.size x y z wn a0 s0 _ (by exact hF) hf hS'.g0 hs0 (by rw [hb.cell (p := ⟨db, 7, none⟩) hdb]; exact hw) (heap_alloc_new w _)).mono ?_
  rintro e w' ⟨N, rfl, hN, hc, hbel⟩
  exact ⟨N, rfl, by simp at hN; omega, hc, hb.trans (hbel.mono (by simp))⟩

set_option maxRecDepth 100000 in
set_option maxHeartbeats 1000000 in
theorem seg_A1 (F : Interp) (db : Nat) (bo : Option Addr) (bl bc : Nat) (wv sv : Value) (mw wr wn : Int) (ind : Int) (n pos : Nat) (a0 a1 a2 : Addr) (w : World) (hF : F.answers w.tape) (hS : Sent a0 a1 a2 w) (hD : Dc w db (.slice bo bl bc) wv mw wr wn sv)
    (hI : (bits BinOp.and IntKind.u8 ind 1 != 0) = true) (hbl : bl ≤ 1048576) (hn : n ≤ 1048576) (hp : (pos : Int) ≤ 9223372036854775807) (hr : bl < pos + n) :
    Calls Ybaf.prog 6 #[.pointer (some ⟨db, 0, none⟩), .int .u8 ind, .int .i64 n, .int .i64 pos] w (Refused a0 w) := by
  obtain ⟨c0, c1, c2, c3, c5, c6, c7, c17, c18, f17⟩ := hD.cells
  have hbl' : (bl : Int) ≤ 1048576 := by omega
  have hn' : (n : Int) ≤ 1048576 := by omega
  have hpos : 0 ≤ (pos : Int) := by omega
  by_cases h1 : bl < pos
  · have h1' : (bl : Int) < (pos : Int) := by omega
    go_enter Ybaf.func6, Ybaf.ntmps6
    go_wp2_with (go_at_call 9; refine (malformed_at F _ db _ _ _ wn a0 a1 a2 w hF hS fmtB c7).mono ?_; rintro e w' ⟨N, rfl, hN, hc, hbel⟩)
    go_ret2
    exact ⟨N, rfl, hN, hc, hbel⟩
  · have h1' : ¬ (bl : Int) < (pos : Int) := by omega
    have h2 : (bl : Int) - (pos : Int) < (n : Int) := by omega
    go_enter Ybaf.func6, Ybaf.ntmps6
    go_wp2_with (go_at_call 9; refine (malformed_at F _ db _ _ _ wn a0 a1 a2 w hF hS fmtB c7).mono ?_; rintro e w' ⟨N, rfl, hN, hc, hbel⟩)
    go_ret2
    exact ⟨N, rfl, hN, hc, hbel⟩

end Go.Proofs.YbulkdyqiFmt
