/-
  LawS6261CWhole: THE WALK, way by way.
-/
import Derived.Test.YbulkdyqiFmtLaw1
namespace Go.Proofs.YbulkdyqiFmt
open Go.RowKit Go.Extern.Stop Go.Stop Go.Extern
set_option maxRecDepth 100000

set_option maxHeartbeats 2000000 in
theorem law_A2z_u (F : Interp) (ind : Int) (n pos : Nat) (pb pt ps : Option Addr) (bl bc tl tc sl sc : Nat) (bs ts ss : List Int) (wr mw wn : Int) (fail : Bool) (a0 a1 a2 : Addr) (w : World) (H : In F n pos pb pt ps bl bc tl tc sl sc bs ts ss wr mw a0 a1 a2 w)
    (hI : (bits BinOp.and IntKind.u8 ind 1 != 0) = true) (hr : pos + n ≤ bl) (hz : ¬ 0 < n) :
    Calls Ybaf.prog 3 #[.int .u8 ind, .int .i64 n, .int .i64 pos, .slice pb bl bc, .int .i64 wr, .int .i64 mw, .int .i64 wn, .slice pt tl tc, .bool false, .bool fail, .slice ps sl sc] w fun e w' => e = .returned (.bool true) ∧ Below w.heap.size w w' := by
  obtain ⟨hF, hS, hB, hT, hX, nB, nT, nX, lb, lt, ls, hn, hp, hwr, cB, cT, mB, mT⟩ := H
  have lb' : ¬ (1048576 : Int) < (bl : Int) := by omega
  have lt' : ¬ (1048576 : Int) < (tl : Int) := by omega
  have ls' : ¬ (1048576 : Int) < (sl : Int) := by omega
  have hn' : ¬ (1048576 : Int) < (n : Int) := by omega
  have hpos : 0 ≤ (pos : Int) := by omega
  go_enter Ybaf.func3, Ybaf.ntmps3
  go_wp2_with (go_at_call 4; refine (new_any _ _).mono ?_; rintro e w0 ⟨rfl, rfl⟩)
  refine (clone_any pb bl bc bs _ lb nB (hB.later (Nat.le_refl _) ((Below.refl _ w).alloc (Nat.le_refl _) _))).mono ?_
  rintro e w1 ⟨bo, bc', rfl, h1, b1⟩
  go_wp2_with fail
  refine (clone_any pt tl tc ts _ lt nT (hT.later (Nat.le_refl _) (blw b1))).mono ?_
  rintro e w2 ⟨ta, tc', rfl, h2, b2⟩
  go_wp2_with fail
  refine (clone_any ps sl sc ss _ ls nX (hX.later (Nat.le_refl _) (((blt (blw b1) b2).alloc (blt (blw b1) b2).size _).alloc (by have := (blt (blw b1) b2).size; simp; omega) _))).mono ?_
  rintro e w4 ⟨so, sc', rfl, h4, b4⟩
  go_wp2_with fail
  have SU := setup (wv := .iface 34 (.pointer (some ⟨w2.heap.size + 1, 0, none⟩))) (mw := mw) (wr := wr) (wn := wn) h1 b1 h2 b2 ((Below.refl _ _).alloc (Nat.le_refl _) _) h4 b4 hB.1 hT.1
  clear h1 b1 h2 b2 h4 b4
  generalize w4.alloc _ = W at SU ⊢
  generalize w4.heap.size = db at SU ⊢
  generalize w2.heap.size + 1 = cb at SU ⊢
  generalize w2.heap.size = rb at SU ⊢
  have hF5 : F.answers W.tape := by rw [SU.below.tape]; exact hF
  have hS5 := hS.later (Nat.le_refl _) SU.below
  have hD5 := SU.dc
  refine (seg_A2 (w.heap.size + 1) db bo bl bc' bs _ _ mw wr wn ind n pos W SU.dc SU.hb SU.hbl hI lb hr).mono ?_
  rintro e w6 ⟨ga, gc, rfl, hbel, HG, hbg⟩
  have HG6 := HG.later (Nat.le_refl _) hbel
  have hpbB : 0 < bl → ∀ x, pb = some x → x.block < w.heap.size := fun h x hx => by
    obtain ⟨y, hy, hc⟩ := hB.2 0 h
    obtain rfl : x = y := by rw [hx] at hy; simpa using hy
    have := World.block_lt_of_cell? w _ hc
    simpa [Addr.add] using this
  obtain ⟨c0, c1, c2, c3, c5, c6, c7, c17, c18, f17⟩ := (SU.dc.kept (Kept.of_below (S := fun _ => False) hbel) (fun h => h)).cells
  obtain ⟨r0, r1, r2, r3, r4, _, _⟩ := (SU.rw.kept (Kept.of_below (S := fun _ => False) hbel) (fun h => h)).cell
  have HB6 := (own_has SU.hbl SU.hb).later (Nat.le_refl _) hbel
  have HT6 := (own_has SU.htl SU.ht).later (Nat.le_refl _) hbel
  have hbw := blt SU.below hbel
  have PB6 := hB.later (Nat.le_refl _) hbw
  have PT6 := hT.later (Nat.le_refl _) hbw
  have S6 := hS.later (Nat.le_refl _) hbw
  have g0 := S6.g0
  have g1 := S6.g1
  have g2 := S6.g2
  clear hS5 hS hB hT hX hF5 hD5
  have hq1 := neqW34 ⟨cb, 0, none⟩
  have hq2 := fun w => Lib.run_eql_slice_nil (P := Ybaf.prog) w 22 5 none 0 0 0 0 Ybaf.underlying22
  have hq3 := fun w => run_neq_slice_nil_any (P := Ybaf.prog) w 22 5 none 0 0 0 0 Ybaf.underlying22
  go_wp2_with fail
  refine (equal_same HB6 PB6).mono ?_
  rintro e w7 ⟨rfl, rfl⟩
  go_wp2_with fail
  refine (equal_same HT6 PT6).mono ?_
  rintro e w8 ⟨rfl, rfl⟩
  have h1 : ¬ (bl : Int) < (pos : Int) := by omega
  have h2 : ¬ (bl : Int) - (pos : Int) < (n : Int) := by omega
  have h3 : (pos : Int) + (n : Int) ≤ (bc : Int) := by omega
  have h5 : (pos : Int) + (n : Int) ≤ 1048576 := by omega
  have hz' : ¬ (0 : Int) < (n : Int) := by omega
  have HZ : ∀ p : Option Addr, Has w8 p n ((bs.drop pos).take n) := fun p => by
    have e : n = 0 := by omega
    rw [e]
    have e2 : (bs.drop pos).take 0 = [] := by simp
    rw [e2]; exact Has.nil _ _
  clear hbg SU
  by_cases hcp : bc = pos
  · go_wp2_with fail
    refine (equal_same HG6 (HZ _)).mono ?_
    rintro e w9 ⟨rfl, rfl⟩
    go_wp2
    go_ret
    exact ⟨rfl, hbw⟩
  · go_wp2_with fail
    refine (equal_same HG6 (HZ _)).mono ?_
    rintro e w9 ⟨rfl, rfl⟩
    go_wp2
    go_ret
    exact ⟨rfl, hbw⟩

set_option maxHeartbeats 2000000 in
theorem law_A2p_u (F : Interp) (ind : Int) (n pos : Nat) (pb pt ps : Option Addr) (bl bc tl tc sl sc : Nat) (bs ts ss : List Int) (wr mw wn : Int) (fail : Bool) (a0 a1 a2 : Addr) (w : World) (H : In F n pos pb pt ps bl bc tl tc sl sc bs ts ss wr mw a0 a1 a2 w)
    (hI : (bits BinOp.and IntKind.u8 ind 1 != 0) = true) (hr : pos + n ≤ bl) (hz : 0 < n) (hv : 0 ≤ bs.getD pos 0 ∧ bs.getD pos 0 ≤ 255) :
    Calls Ybaf.prog 3 #[.int .u8 ind, .int .i64 n, .int .i64 pos, .slice pb bl bc, .int .i64 wr, .int .i64 mw, .int .i64 wn, .slice pt tl tc, .bool false, .bool fail, .slice ps sl sc] w fun e w' => e = .returned (.bool true) ∧ Below w.heap.size w w' := by
  obtain ⟨hF, hS, hB, hT, hX, nB, nT, nX, lb, lt, ls, hn, hp, hwr, cB, cT, mB, mT⟩ := H
  have lb' : ¬ (1048576 : Int) < (bl : Int) := by omega
  have lt' : ¬ (1048576 : Int) < (tl : Int) := by omega
  have ls' : ¬ (1048576 : Int) < (sl : Int) := by omega
  have hn' : ¬ (1048576 : Int) < (n : Int) := by omega
  have hpos : 0 ≤ (pos : Int) := by omega
  go_enter Ybaf.func3, Ybaf.ntmps3
  go_wp2_with (go_at_call 4; refine (new_any _ _).mono ?_; rintro e w0 ⟨rfl, rfl⟩)
  refine (clone_any pb bl bc bs _ lb nB (hB.later (Nat.le_refl _) ((Below.refl _ w).alloc (Nat.le_refl _) _))).mono ?_
  rintro e w1 ⟨bo, bc', rfl, h1, b1⟩
  go_wp2_with fail
  refine (clone_any pt tl tc ts _ lt nT (hT.later (Nat.le_refl _) (blw b1))).mono ?_
  rintro e w2 ⟨ta, tc', rfl, h2, b2⟩
  go_wp2_with fail
  refine (clone_any ps sl sc ss _ ls nX (hX.later (Nat.le_refl _) (((blt (blw b1) b2).alloc (blt (blw b1) b2).size _).alloc (by have := (blt (blw b1) b2).size; simp; omega) _))).mono ?_
  rintro e w4 ⟨so, sc', rfl, h4, b4⟩
  go_wp2_with fail
  have SU := setup (wv := .iface 34 (.pointer (some ⟨w2.heap.size + 1, 0, none⟩))) (mw := mw) (wr := wr) (wn := wn) h1 b1 h2 b2 ((Below.refl _ _).alloc (Nat.le_refl _) _) h4 b4 hB.1 hT.1
  clear h1 b1 h2 b2 h4 b4
  generalize w4.alloc _ = W at SU ⊢
  generalize w4.heap.size = db at SU ⊢
  generalize w2.heap.size + 1 = cb at SU ⊢
  generalize w2.heap.size = rb at SU ⊢
  have hF5 : F.answers W.tape := by rw [SU.below.tape]; exact hF
  have hS5 := hS.later (Nat.le_refl _) SU.below
  have hD5 := SU.dc
  refine (seg_A2 (w.heap.size + 1) db bo bl bc' bs _ _ mw wr wn ind n pos W SU.dc SU.hb SU.hbl hI lb hr).mono ?_
  rintro e w6 ⟨ga, gc, rfl, hbel, HG, hbg⟩
  have HG6 := HG.later (Nat.le_refl _) hbel
  have hpbB : 0 < bl → ∀ x, pb = some x → x.block < w.heap.size := fun h x hx => by
    obtain ⟨y, hy, hc⟩ := hB.2 0 h
    obtain rfl : x = y := by rw [hx] at hy; simpa using hy
    have := World.block_lt_of_cell? w _ hc
    simpa [Addr.add] using this
  obtain ⟨c0, c1, c2, c3, c5, c6, c7, c17, c18, f17⟩ := (SU.dc.kept (Kept.of_below (S := fun _ => False) hbel) (fun h => h)).cells
  obtain ⟨r0, r1, r2, r3, r4, _, _⟩ := (SU.rw.kept (Kept.of_below (S := fun _ => False) hbel) (fun h => h)).cell
  have HB6 := (own_has SU.hbl SU.hb).later (Nat.le_refl _) hbel
  have HT6 := (own_has SU.htl SU.ht).later (Nat.le_refl _) hbel
  have hbw := blt SU.below hbel
  have PB6 := hB.later (Nat.le_refl _) hbw
  have PT6 := hT.later (Nat.le_refl _) hbw
  have S6 := hS.later (Nat.le_refl _) hbw
  have g0 := S6.g0
  have g1 := S6.g1
  have g2 := S6.g2
  clear hS5 hS hB hT hX hF5 hD5
  have hq1 := neqW34 ⟨cb, 0, none⟩
  have hq2 := fun w => Lib.run_eql_slice_nil (P := Ybaf.prog) w 22 5 none 0 0 0 0 Ybaf.underlying22
  have hq3 := fun w => run_neq_slice_nil_any (P := Ybaf.prog) w 22 5 none 0 0 0 0 Ybaf.underlying22
  go_wp2_with fail
  refine (equal_same HB6 PB6).mono ?_
  rintro e w7 ⟨rfl, rfl⟩
  go_wp2_with fail
  refine (equal_same HT6 PT6).mono ?_
  rintro e w8 ⟨rfl, rfl⟩
  have h1 : ¬ (bl : Int) < (pos : Int) := by omega
  have h2 : ¬ (bl : Int) - (pos : Int) < (n : Int) := by omega
  have h3 : (pos : Int) + (n : Int) ≤ (bc : Int) := by omega
  have h5 : (pos : Int) + (n : Int) ≤ 1048576 := by omega
  have hcp : ¬ bc = pos := by omega
  have hz' : (0 : Int) < (n : Int) := by omega
  obtain ⟨bg, rfl, rfl⟩ := hbg hz
  obtain ⟨b, o, rfl, hcb⟩ := PB6.at (by omega)
  have HP : Has w8 (some ⟨b, o + pos, none⟩) n ((bs.drop pos).take n) := by
    have := PB6.part pos n hr
    simpa [Addr.add_lit] using this
  have hbb : b < w.heap.size := hpbB (by omega) _ rfl
  have hbg1 : w.heap.size + 1 ≤ bg := (SU.hb.lt bg rfl).1
  have hbgW : bg < W.heap.size := (SU.hb.lt bg rfl).2
  have hfr : w8.frozen? ⟨bg, pos, none⟩ = false := by rw [hbel.frozen (p := ⟨bg, pos, none⟩) hbgW]; exact SU.hb.frozenAt pos
  obtain ⟨v, ev⟩ : ∃ v, Hid (v = bs.getD pos 0) := ⟨_, rfl⟩
  rw [← ev.out] at hv
  have hxn := xor_ne v hv.1 hv.2
  have hcg : w8.cell? ⟨bg, pos, none⟩ = some (.int .u8 v) := by
    obtain ⟨x, hx, hc⟩ := HB6.2 pos (by omega)
    obtain rfl : (⟨bg, 0, none⟩ : Addr) = x := by simpa using hx
    rw [Addr.add_lit, Nat.zero_add] at hc
    rw [hc, ev.out]
  have hcb1 : w8.cell? ⟨b, o + pos, none⟩ = some (.int .u8 v) := by rw [hcb pos (by omega), ev.out]
  have hcb2 : ∀ u, (w8.setCell ⟨bg, pos, none⟩ u).cell? ⟨b, o + pos, none⟩ = some (.int .u8 v) := fun u => by
    rw [World.cell?_of_block (w := w8) (Below.heap_setCell _ _ _ _ (by show b ≠ bg; omega))]; exact hcb1
  have hpl : (pos : Int) < (bl : Int) := by omega
  go_wp2_with fail
  refine (equal_same HG6 HP).mono ?_
  rintro e w9 ⟨rfl, rfl⟩
  clear HB6 HT6 PB6 PT6 HG HG6 HP SU hcb c0 c1 c2 c3 c5 c6 c7 c17 c18 f17 r0 r1 r2 r3 r4 S6
  go_wp2
  go_quiet (fail)
  go_wp2
  go_ret
  exact ⟨rfl, (below_drewN (hbw.setCell (show w.heap.size ≤ bg by omega) _) _).setCell (show w.heap.size ≤ bg by omega) _⟩

end Go.Proofs.YbulkdyqiFmt
