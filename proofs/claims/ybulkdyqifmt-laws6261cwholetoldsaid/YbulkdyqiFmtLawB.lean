/-
  LawS6261CWhole: THE WALK, way by way.
-/
import Derived.Test.YbulkdyqiFmtLawA
namespace Go.Proofs.YbulkdyqiFmt
open Go.RowKit Go.Extern.Stop Go.Stop Go.Extern
set_option maxRecDepth 100000

set_option maxHeartbeats 2000000 in
theorem law_B1_r (F : Interp) (ind : Int) (n pos : Nat) (pb pt ps : Option Addr) (bl bc tl tc sl sc : Nat) (bs ts ss : List Int) (wr mw wn : Int) (fail : Bool) (a0 a1 a2 : Addr) (w : World) (H : In F n pos pb pt ps bl bc tl tc sl sc bs ts ss wr mw a0 a1 a2 w)
    (hI : (bits BinOp.and IntKind.u8 ind 1 != 0) = false) (hI2 : (bits BinOp.and IntKind.u8 ind 2 != 0) = true) (hr : wr < (pos : Int) ∨ wr - (pos : Int) < (n : Int)) :
    Calls Ybaf.prog 3 #[.int .u8 ind, .int .i64 n, .int .i64 pos, .slice pb bl bc, .int .i64 wr, .int .i64 mw, .int .i64 wn, .slice pt tl tc, .bool true, .bool fail, .slice ps sl sc] w fun e w' => e = .returned (.bool true) ∧ Below w.heap.size w w' := by
  obtain ⟨hF, hS, hB, hT, hX, nB, nT, nX, lb, lt, ls, hn, hp, hwr, cB, cT, mB, mT⟩ := H
  have lb' : ¬ (1048576 : Int) < (bl : Int) := by omega
  have lt' : ¬ (1048576 : Int) < (tl : Int) := by omega
  have ls' : ¬ (1048576 : Int) < (sl : Int) := by omega
  have hn' : ¬ (1048576 : Int) < (n : Int) := by omega
  have hpos : 0 ≤ (pos : Int) := by omega
  go_enter Ybaf.func3, Ybaf.ntmps3
  go_wp2_with (go_at_call 4; refine (new_any _ _).mono ?_; rintro e w0 ⟨rfl, rfl⟩)
  refine (clone_any pb bl bc bs _ lb nB (hB.later (Nat.le_refl _) ((Below.refl _ w).alloc (Nat.le_refl _) _))).mono ?_
  rintro e w1 ⟨bo, bc', rfl, h1, b1⟩
  go_wp2_with fail
  refine (clone_any pt tl tc ts _ lt nT (hT.later (Nat.le_refl _) (blw b1))).mono ?_
  rintro e w2 ⟨ta, tc', rfl, h2, b2⟩
  go_wp2_with fail
  refine (clone_any ps sl sc ss _ ls nX (hX.later (Nat.le_refl _) ((blt (blw b1) b2).alloc (blt (blw b1) b2).size _))).mono ?_
  rintro e w4 ⟨so, sc', rfl, h4, b4⟩
  go_wp2_with fail
  have SU := setup (wv := .iface 27 (.pointer (some ⟨w2.heap.size, 0, none⟩))) (mw := mw) (wr := wr) (wn := wn) h1 b1 h2 b2 (Below.refl _ _) h4 b4 hB.1 hT.1
  clear h1 b1 h2 b2 h4 b4
  generalize w4.alloc _ = W at SU ⊢
  generalize w4.heap.size = db at SU ⊢
  generalize w2.heap.size = rb at SU ⊢
  have hF5 : F.answers W.tape := by rw [SU.below.tape]; exact hF
  have hS5 := hS.later (Nat.le_refl _) SU.below
  have hD5 := SU.dc
  refine (seg_B1 F db _ _ _ mw wr wn ind n pos a0 a1 a2 W hF5 hS5 SU.dc hI hI2 hn hp hr).mono ?_
  rintro e w6 ⟨N, rfl, hN, hc, hbel⟩
  obtain ⟨c0, c1, c2, c3, c5, c6, c7, c17, c18, f17⟩ := (SU.dc.kept (Kept.of_below (S := fun _ => False) hbel) (fun h => h)).cells
  obtain ⟨r0, r1, r2, r3, r4, _, _⟩ := (SU.rw.kept (Kept.of_below (S := fun _ => False) hbel) (fun h => h)).cell
  have HB6 := (own_has SU.hbl SU.hb).later (Nat.le_refl _) hbel
  have HT6 := (own_has SU.htl SU.ht).later (Nat.le_refl _) hbel
  have hbw := blt SU.below hbel
  have PB6 := hB.later (Nat.le_refl _) hbw
  have PT6 := hT.later (Nat.le_refl _) hbw
  have S6 := hS.later (Nat.le_refl _) hbw
  have g0 := S6.g0
  have g1 := S6.g1
  have g2 := S6.g2
  clear hS5 hS hB hT hX hF5 hD5
  have hq1 := neqW27 ⟨rb, 0, none⟩
  have hq2 := fun w => Lib.run_eql_slice_nil (P := Ybaf.prog) w 22 5 none 0 0 0 0 Ybaf.underlying22
  have hq3 := fun w => run_neq_slice_nil_any (P := Ybaf.prog) w 22 5 none 0 0 0 0 Ybaf.underlying22
  go_wp2_with fail
  refine (equal_same HB6 PB6).mono ?_
  rintro e w7 ⟨rfl, rfl⟩
  go_wp2_with fail
  refine (equal_same HT6 PT6).mono ?_
  rintro e w8 ⟨rfl, rfl⟩
  by_cases hb1 : wr < (pos : Int)
  · skip
    go_wp2_with fail
    refine (is_wrap_same N 0 a0 _ hc).mono ?_
    rintro e w9 ⟨rfl, rfl⟩
    go_wp2
    go_ret
    exact ⟨rfl, hbw⟩
  · have hb2' : wr - (pos : Int) < (n : Int) := by omega
    go_wp2_with fail
    refine (is_wrap_same N 0 a0 _ hc).mono ?_
    rintro e w9 ⟨rfl, rfl⟩
    go_wp2
    go_ret
    exact ⟨rfl, hbw⟩

set_option maxHeartbeats 2000000 in
theorem law_B1_u (F : Interp) (ind : Int) (n pos : Nat) (pb pt ps : Option Addr) (bl bc tl tc sl sc : Nat) (bs ts ss : List Int) (wr mw wn : Int) (fail : Bool) (a0 a1 a2 : Addr) (w : World) (H : In F n pos pb pt ps bl bc tl tc sl sc bs ts ss wr mw a0 a1 a2 w)
    (hI : (bits BinOp.and IntKind.u8 ind 1 != 0) = false) (hI2 : (bits BinOp.and IntKind.u8 ind 2 != 0) = true) (hr : wr < (pos : Int) ∨ wr - (pos : Int) < (n : Int)) :
    Calls Ybaf.prog 3 #[.int .u8 ind, .int .i64 n, .int .i64 pos, .slice pb bl bc, .int .i64 wr, .int .i64 mw, .int .i64 wn, .slice pt tl tc, .bool false, .bool fail, .slice ps sl sc] w fun e w' => e = .returned (.bool true) ∧ Below w.heap.size w w' := by
  obtain ⟨hF, hS, hB, hT, hX, nB, nT, nX, lb, lt, ls, hn, hp, hwr, cB, cT, mB, mT⟩ := H
  have lb' : ¬ (1048576 : Int) < (bl : Int) := by omega
  have lt' : ¬ (1048576 : Int) < (tl : Int) := by omega
  have ls' : ¬ (1048576 : Int) < (sl : Int) := by omega
  have hn' : ¬ (1048576 : Int) < (n : Int) := by omega
  have hpos : 0 ≤ (pos : Int) := by omega
  go_enter Ybaf.func3, Ybaf.ntmps3
  go_wp2_with (go_at_call 4; refine (new_any _ _).mono ?_; rintro e w0 ⟨rfl, rfl⟩)
  refine (clone_any pb bl bc bs _ lb nB (hB.later (Nat.le_refl _) ((Below.refl _ w).alloc (Nat.le_refl _) _))).mono ?_
  rintro e w1 ⟨bo, bc', rfl, h1, b1⟩
  go_wp2_with fail
  refine (clone_any pt tl tc ts _ lt nT (hT.later (Nat.le_refl _) (blw b1))).mono ?_
  rintro e w2 ⟨ta, tc', rfl, h2, b2⟩
  go_wp2_with fail
  refine (clone_any ps sl sc ss _ ls nX (hX.later (Nat.le_refl _) (((blt (blw b1) b2).alloc (blt (blw b1) b2).size _).alloc (by have := (blt (blw b1) b2).size; simp; omega) _))).mono ?_
  rintro e w4 ⟨so, sc', rfl, h4, b4⟩
  go_wp2_with fail
  have SU := setup (wv := .iface 34 (.pointer (some ⟨w2.heap.size + 1, 0, none⟩))) (mw := mw) (wr := wr) (wn := wn) h1 b1 h2 b2 ((Below.refl _ _).alloc (Nat.le_refl _) _) h4 b4 hB.1 hT.1
  clear h1 b1 h2 b2 h4 b4
  generalize w4.alloc _ = W at SU ⊢
  generalize w4.heap.size = db at SU ⊢
  generalize w2.heap.size + 1 = cb at SU ⊢
  generalize w2.heap.size = rb at SU ⊢
  have hF5 : F.answers W.tape := by rw [SU.below.tape]; exact hF
  have hS5 := hS.later (Nat.le_refl _) SU.below
  have hD5 := SU.dc
  refine (seg_B1 F db _ _ _ mw wr wn ind n pos a0 a1 a2 W hF5 hS5 SU.dc hI hI2 hn hp hr).mono ?_
  rintro e w6 ⟨N, rfl, hN, hc, hbel⟩
  obtain ⟨c0, c1, c2, c3, c5, c6, c7, c17, c18, f17⟩ := (SU.dc.kept (Kept.of_below (S := fun _ => False) hbel) (fun h => h)).cells
  obtain ⟨r0, r1, r2, r3, r4, _, _⟩ := (SU.rw.kept (Kept.of_below (S := fun _ => False) hbel) (fun h => h)).cell
  have HB6 := (own_has SU.hbl SU.hb).later (Nat.le_refl _) hbel
  have HT6 := (own_has SU.htl SU.ht).later (Nat.le_refl _) hbel
  have hbw := blt SU.below hbel
  have PB6 := hB.later (Nat.le_refl _) hbw
  have PT6 := hT.later (Nat.le_refl _) hbw
  have S6 := hS.later (Nat.le_refl _) hbw
  have g0 := S6.g0
  have g1 := S6.g1
  have g2 := S6.g2
  clear hS5 hS hB hT hX hF5 hD5
  have hq1 := neqW34 ⟨cb, 0, none⟩
  have hq2 := fun w => Lib.run_eql_slice_nil (P := Ybaf.prog) w 22 5 none 0 0 0 0 Ybaf.underlying22
  have hq3 := fun w => run_neq_slice_nil_any (P := Ybaf.prog) w 22 5 none 0 0 0 0 Ybaf.underlying22
  go_wp2_with fail
  refine (equal_same HB6 PB6).mono ?_
  rintro e w7 ⟨rfl, rfl⟩
  go_wp2_with fail
  refine (equal_same HT6 PT6).mono ?_
  rintro e w8 ⟨rfl, rfl⟩
  by_cases hb1 : wr < (pos : Int)
  · skip
    go_wp2_with fail
    refine (is_wrap_same N 0 a0 _ hc).mono ?_
    rintro e w9 ⟨rfl, rfl⟩
    go_wp2
    go_ret
    exact ⟨rfl, hbw⟩
  · have hb2' : wr - (pos : Int) < (n : Int) := by omega
    go_wp2_with fail
    refine (is_wrap_same N 0 a0 _ hc).mono ?_
    rintro e w9 ⟨rfl, rfl⟩
    go_wp2
    go_ret
    exact ⟨rfl, hbw⟩

set_option maxHeartbeats 2000000 in
theorem law_C_r (F : Interp) (ind : Int) (n pos : Nat) (pb pt ps : Option Addr) (bl bc tl tc sl sc : Nat) (bs ts ss : List Int) (wr mw wn : Int) (fail : Bool) (a0 a1 a2 : Addr) (w : World) (H : In F n pos pb pt ps bl bc tl tc sl sc bs ts ss wr mw a0 a1 a2 w)
    (hI : (bits BinOp.and IntKind.u8 ind 1 != 0) = false) (hI2 : (bits BinOp.and IntKind.u8 ind 2 != 0) = false) :
    Calls Ybaf.prog 3 #[.int .u8 ind, .int .i64 n, .int .i64 pos, .slice pb bl bc, .int .i64 wr, .int .i64 mw, .int .i64 wn, .slice pt tl tc, .bool true, .bool fail, .slice ps sl sc] w fun e w' => e = .returned (.bool true) ∧ Below w.heap.size w w' := by
  obtain ⟨hF, hS, hB, hT, hX, nB, nT, nX, lb, lt, ls, hn, hp, hwr, cB, cT, mB, mT⟩ := H
  have lb' : ¬ (1048576 : Int) < (bl : Int) := by omega
  have lt' : ¬ (1048576 : Int) < (tl : Int) := by omega
  have ls' : ¬ (1048576 : Int) < (sl : Int) := by omega
  have hn' : ¬ (1048576 : Int) < (n : Int) := by omega
  have hpos : 0 ≤ (pos : Int) := by omega
  go_enter Ybaf.func3, Ybaf.ntmps3
  go_wp2_with (go_at_call 4; refine (new_any _ _).mono ?_; rintro e w0 ⟨rfl, rfl⟩)
  refine (clone_any pb bl bc bs _ lb nB (hB.later (Nat.le_refl _) ((Below.refl _ w).alloc (Nat.le_refl _) _))).mono ?_
  rintro e w1 ⟨bo, bc', rfl, h1, b1⟩
  go_wp2_with fail
  refine (clone_any pt tl tc ts _ lt nT (hT.later (Nat.le_refl _) (blw b1))).mono ?_
  rintro e w2 ⟨ta, tc', rfl, h2, b2⟩
  go_wp2_with fail
  refine (clone_any ps sl sc ss _ ls nX (hX.later (Nat.le_refl _) ((blt (blw b1) b2).alloc (blt (blw b1) b2).size _))).mono ?_
  rintro e w4 ⟨so, sc', rfl, h4, b4⟩
  go_wp2_with fail
  have SU := setup (wv := .iface 27 (.pointer (some ⟨w2.heap.size, 0, none⟩))) (mw := mw) (wr := wr) (wn := wn) h1 b1 h2 b2 (Below.refl _ _) h4 b4 hB.1 hT.1
  clear h1 b1 h2 b2 h4 b4
  generalize w4.alloc _ = W at SU ⊢
  generalize w4.heap.size = db at SU ⊢
  generalize w2.heap.size = rb at SU ⊢
  have hF5 : F.answers W.tape := by rw [SU.below.tape]; exact hF
  have hS5 := hS.later (Nat.le_refl _) SU.below
  have hD5 := SU.dc
  refine (seg_C db ind n pos W hI hI2).mono ?_
  rintro e w6 ⟨rfl, hw6⟩
  have hbel : Below W.heap.size W w6 := by rw [hw6]; exact Below.refl _ _
  clear hw6
  obtain ⟨c0, c1, c2, c3, c5, c6, c7, c17, c18, f17⟩ := (SU.dc.kept (Kept.of_below (S := fun _ => False) hbel) (fun h => h)).cells
  obtain ⟨r0, r1, r2, r3, r4, _, _⟩ := (SU.rw.kept (Kept.of_below (S := fun _ => False) hbel) (fun h => h)).cell
  have HB6 := (own_has SU.hbl SU.hb).later (Nat.le_refl _) hbel
  have HT6 := (own_has SU.htl SU.ht).later (Nat.le_refl _) hbel
  have hbw := blt SU.below hbel
  have PB6 := hB.later (Nat.le_refl _) hbw
  have PT6 := hT.later (Nat.le_refl _) hbw
  have S6 := hS.later (Nat.le_refl _) hbw
  have g0 := S6.g0
  have g1 := S6.g1
  have g2 := S6.g2
  clear hS5 hS hB hT hX hF5 hD5
  have hq1 := neqW27 ⟨rb, 0, none⟩
  have hq2 := fun w => Lib.run_eql_slice_nil (P := Ybaf.prog) w 22 5 none 0 0 0 0 Ybaf.underlying22
  have hq3 := fun w => run_neq_slice_nil_any (P := Ybaf.prog) w 22 5 none 0 0 0 0 Ybaf.underlying22
  go_wp2_with fail
  refine (equal_same HB6 PB6).mono ?_
  rintro e w7 ⟨rfl, rfl⟩
  go_wp2_with fail
  refine (equal_same HT6 PT6).mono ?_
  rintro e w8 ⟨rfl, rfl⟩
  go_wp2
  go_ret
  exact ⟨rfl, hbw⟩

set_option maxHeartbeats 2000000 in
theorem law_C_u (F : Interp) (ind : Int) (n pos : Nat) (pb pt ps : Option Addr) (bl bc tl tc sl sc : Nat) (bs ts ss : List Int) (wr mw wn : Int) (fail : Bool) (a0 a1 a2 : Addr) (w : World) (H : In F n pos pb pt ps bl bc tl tc sl sc bs ts ss wr mw a0 a1 a2 w)
    (hI : (bits BinOp.and IntKind.u8 ind 1 != 0) = false) (hI2 : (bits BinOp.and IntKind.u8 ind 2 != 0) = false) :
    Calls Ybaf.prog 3 #[.int .u8 ind, .int .i64 n, .int .i64 pos, .slice pb bl bc, .int .i64 wr, .int .i64 mw, .int .i64 wn, .slice pt tl tc, .bool false, .bool fail, .slice ps sl sc] w fun e w' => e = .returned (.bool true) ∧ Below w.heap.size w w' := by
  obtain ⟨hF, hS, hB, hT, hX, nB, nT, nX, lb, lt, ls, hn, hp, hwr, cB, cT, mB, mT⟩ := H
  have lb' : ¬ (1048576 : Int) < (bl : Int) := by omega
  have lt' : ¬ (1048576 : Int) < (tl : Int) := by omega
  have ls' : ¬ (1048576 : Int) < (sl : Int) := by omega
  have hn' : ¬ (1048576 : Int) < (n : Int) := by omega
  have hpos : 0 ≤ (pos : Int) := by omega
  go_enter Ybaf.func3, Ybaf.ntmps3
  go_wp2_with (go_at_call 4; refine (new_any _ _).mono ?_; rintro e w0 ⟨rfl, rfl⟩)
  refine (clone_any pb bl bc bs _ lb nB (hB.later (Nat.le_refl _) ((Below.refl _ w).alloc (Nat.le_refl _) _))).mono ?_
  rintro e w1 ⟨bo, bc', rfl, h1, b1⟩
  go_wp2_with fail
  refine (clone_any pt tl tc ts _ lt nT (hT.later (Nat.le_refl _) (blw b1))).mono ?_
  rintro e w2 ⟨ta, tc', rfl, h2, b2⟩
  go_wp2_with fail
  refine (clone_any ps sl sc ss _ ls nX (hX.later (Nat.le_refl _) (((blt (blw b1) b2).alloc (blt (blw b1) b2).size _).alloc (by have := (blt (blw b1) b2).size; simp; omega) _))).mono ?_
  rintro e w4 ⟨so, sc', rfl, h4, b4⟩
  go_wp2_with fail
  have SU := setup (wv := .iface 34 (.pointer (some ⟨w2.heap.size + 1, 0, none⟩))) (mw := mw) (wr := wr) (wn := wn) h1 b1 h2 b2 ((Below.refl _ _).alloc (Nat.le_refl _) _) h4 b4 hB.1 hT.1
  clear h1 b1 h2 b2 h4 b4
  generalize w4.alloc _ = W at SU ⊢
  generalize w4.heap.size = db at SU ⊢
  generalize w2.heap.size + 1 = cb at SU ⊢
  generalize w2.heap.size = rb at SU ⊢
  have hF5 : F.answers W.tape := by rw [SU.below.tape]; exact hF
  have hS5 := hS.later (Nat.le_refl _) SU.below
  have hD5 := SU.dc
  refine (seg_C db ind n pos W hI hI2).mono ?_
  rintro e w6 ⟨rfl, hw6⟩
  have hbel : Below W.heap.size W w6 := by rw [hw6]; exact Below.refl _ _
  clear hw6
  obtain ⟨c0, c1, c2, c3, c5, c6, c7, c17, c18, f17⟩ := (SU.dc.kept (Kept.of_below (S := fun _ => False) hbel) (fun h => h)).cells
  obtain ⟨r0, r1, r2, r3, r4, _, _⟩ := (SU.rw.kept (Kept.of_below (S := fun _ => False) hbel) (fun h => h)).cell
  have HB6 := (own_has SU.hbl SU.hb).later (Nat.le_refl _) hbel
  have HT6 := (own_has SU.htl SU.ht).later (Nat.le_refl _) hbel
  have hbw := blt SU.below hbel
  have PB6 := hB.later (Nat.le_refl _) hbw
  have PT6 := hT.later (Nat.le_refl _) hbw
  have S6 := hS.later (Nat.le_refl _) hbw
  have g0 := S6.g0
  have g1 := S6.g1
  have g2 := S6.g2
  clear hS5 hS hB hT hX hF5 hD5
  have hq1 := neqW34 ⟨cb, 0, none⟩
  have hq2 := fun w => Lib.run_eql_slice_nil (P := Ybaf.prog) w 22 5 none 0 0 0 0 Ybaf.underlying22
  have hq3 := fun w => run_neq_slice_nil_any (P := Ybaf.prog) w 22 5 none 0 0 0 0 Ybaf.underlying22
  go_wp2_with fail
  refine (equal_same HB6 PB6).mono ?_
  rintro e w7 ⟨rfl, rfl⟩
  go_wp2_with fail
  refine (equal_same HT6 PT6).mono ?_
  rintro e w8 ⟨rfl, rfl⟩
  go_wp2
  go_ret
  exact ⟨rfl, hbw⟩

end Go.Proofs.YbulkdyqiFmt
