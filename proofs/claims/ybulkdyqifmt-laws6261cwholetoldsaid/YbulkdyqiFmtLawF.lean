/-
  LawS6261CWhole: THE WALK, way by way.
-/
import Derived.Test.YbulkdyqiFmtLaw1
namespace Go.Proofs.YbulkdyqiFmt
open Go.RowKit Go.Extern.Stop Go.Stop Go.Extern
set_option maxRecDepth 100000

theorem Setup.after {w W w' : World} {db rb base : Nat} {fe : Addr} {sf : ByteArray} {bo ta so : Option Addr} {bl bc tl tc sl sc : Nat} {bs ts ss : List Int} {wv : Value} {fail : Bool} {mw wr wn pos n : Int} {sv : Value}
    (SU : Setup w W db rb base fe sf bo ta so bl bc tl tc sl sc bs ts ss wv fail mw wr wn) (RB : ReadBack db rb (.slice bo bl bc) wv mw wr wn so (.slice ta tl tc) fail fe pos n sv W w') :
    Has w' bo bl bs ∧ Has w' ta tl ts ∧ Below w.heap.size w w' := by
  have hso : ∀ k, so.map (·.block) = some k → base ≤ k := fun k hk => by
    cases so with
    | none => cases hk
    | some x => exact (SU.hs.lt k (by simpa [Value.ownBlock] using hk)).1
  have hb := SU.hbase
  have hrb := SU.hrbb
  have hdb := SU.hdbb
  refine ⟨RB.kept.has (own_has SU.hbl SU.hb) ?_, RB.kept.has (own_has SU.htl SU.ht) ?_, SU.below.trans (RB.kept.below SU.below.size ?_)⟩
  · rintro x rfl (h | h | h)
    · exact SU.dc.apart SU.hb (by rw [← h]; rfl)
    · exact SU.rw.apart SU.hb (by rw [← h]; rfl)
    · have h1 := hso _ h
      have h2 := SU.hba x.block rfl
      omega
  · rintro x rfl (h | h | h)
    · exact SU.dc.apart SU.ht (by rw [← h]; rfl)
    · exact SU.rw.apart SU.ht (by rw [← h]; rfl)
    · have h1 := hso _ h
      have h2 := SU.htaa x.block rfl
      omega
  · rintro k (h | h | h)
    · omega
    · omega
    · have h1 := hso _ h
      omega

set_option maxHeartbeats 4000000 in
theorem law_B4_r (F : Interp) (ind : Int) (n pos : Nat) (pb pt ps : Option Addr) (bl bc tl tc sl sc : Nat) (bs ts ss : List Int) (wr mw wn : Int) (fail : Bool) (a0 a1 a2 : Addr) (w : World) (H : In F n pos pb pt ps bl bc tl tc sl sc bs ts ss wr mw a0 a1 a2 w)
    (hI : (bits BinOp.and IntKind.u8 ind 1 != 0) = false) (hI2 : (bits BinOp.and IntKind.u8 ind 2 != 0) = true) (hr : (pos : Int) ≤ wr ∧ (n : Int) ≤ wr - (pos : Int)) (hm : (n : Int) ≤ mw) :
    Calls Ybaf.prog 3 #[.int .u8 ind, .int .i64 n, .int .i64 pos, .slice pb bl bc, .int .i64 wr, .int .i64 mw, .int .i64 wn, .slice pt tl tc, .bool true, .bool fail, .slice ps sl sc] w fun e w' => e = .returned (.bool true) ∧ Below w.heap.size w w' := by
  obtain ⟨hF, hS, hB, hT, hX, nB, nT, nX, lb, lt, ls, hn, hp, hwr, cB, cT, mB, mT⟩ := H
  have lb' : ¬ (1048576 : Int) < (bl : Int) := by omega
  have lt' : ¬ (1048576 : Int) < (tl : Int) := by omega
  have ls' : ¬ (1048576 : Int) < (sl : Int) := by omega
  have hn' : ¬ (1048576 : Int) < (n : Int) := by omega
  have hpos : 0 ≤ (pos : Int) := by omega
  go_enter Ybaf.func3, Ybaf.ntmps3
  go_wp2_with (go_at_call 4; refine (new_any _ _).mono ?_; rintro e w0 ⟨rfl, rfl⟩)
  refine (clone_any pb bl bc bs _ lb nB (hB.later (Nat.le_refl _) ((Below.refl _ w).alloc (Nat.le_refl _) _))).mono ?_
  rintro e w1 ⟨bo, bc', rfl, h1, b1⟩
  go_wp2_with fail
  refine (clone_any pt tl tc ts _ lt nT (hT.later (Nat.le_refl _) (blw b1))).mono ?_
  rintro e w2 ⟨ta, tc', rfl, h2, b2⟩
  go_wp2_with fail
  refine (clone_any ps sl sc ss _ ls nX (hX.later (Nat.le_refl _) ((blt (blw b1) b2).alloc (blt (blw b1) b2).size _))).mono ?_
  rintro e w4 ⟨so, sc', rfl, h4, b4⟩
  go_wp2_with fail
  have SU := setup (wv := .iface 27 (.pointer (some ⟨w2.heap.size, 0, none⟩))) (mw := mw) (wr := wr) (wn := wn) h1 b1 h2 b2 (Below.refl _ _) h4 b4 hB.1 hT.1
  clear h1 b1 h2 b2 h4 b4
  generalize w4.alloc _ = W at SU ⊢
  generalize w4.heap.size = db at SU ⊢
  generalize w2.heap.size = rb at SU ⊢
  have hF5 : F.answers W.tape := by rw [SU.below.tape]; exact hF
  have hS5 := hS.later (Nat.le_refl _) SU.below
  have hD5 := SU.dc
  have htl := hT.1
  refine (seg_B4 F _ (w.heap.size + 1) db rb _ mw wr wn so sl sc' (u8s ss) ta tl tc' ts fail ⟨w.heap.size, 0, none⟩ ind n pos W hF5 SU.dc SU.rw SU.htl SU.ht SU.hs SU.hbase.2 _ SU.hfe (by have := SU.hdbb; show w.heap.size ≠ db; omega) (by have := SU.hrbb; show w.heap.size ≠ rb; omega) (by have := SU.hbase.1; show w.heap.size < _; omega) hI hI2 hn hwr hr hm).mono ?_
  rintro e w6 (⟨N, sv, rfl, hcond, hc, RB⟩ | ⟨go, cap', rfl, hf, hfit, hown, RB⟩)
  · obtain ⟨c0, c1, c2, c3, c5, c6, c7, c17, c18, f17⟩ := RB.dc.cells
    obtain ⟨g1, k1, g2, k2, R6, e1, e2⟩ := RB.rw
    obtain ⟨r0, r1, r2, r3, r4, _, _⟩ := R6.cell
    obtain ⟨HB6, HT6, hbw⟩ := SU.after RB
    have PB6 := hB.later (Nat.le_refl _) hbw
    have PT6 := hT.later (Nat.le_refl _) hbw
    have S6 := hS.later (Nat.le_refl _) hbw
    have g0 := S6.g0
    have g1 := S6.g1
    have g2 := S6.g2
    clear hS5 hS hB hT hX hF5 hD5
    have hq1 := neqW27 ⟨rb, 0, none⟩
    have hq2 := fun w => Lib.run_eql_slice_nil (P := Ybaf.prog) w 22 5 none 0 0 0 0 Ybaf.underlying22
    have hq3 := fun w => run_neq_slice_nil_any (P := Ybaf.prog) w 22 5 none 0 0 0 0 Ybaf.underlying22
    go_wp2_with fail
    refine (equal_same HB6 PB6).mono ?_
    rintro e w7 ⟨rfl, rfl⟩
    go_wp2_with fail
    refine (equal_same HT6 PT6).mono ?_
    rintro e w8 ⟨rfl, rfl⟩
    have h1 : ¬ wr < (pos : Int) := by omega
    have h2 : ¬ wr - (pos : Int) < (n : Int) := by omega
    have h3 : ¬ mw < (n : Int) := by omega
    have h4 : (pos : Int) + (n : Int) ≤ 9223372036854775807 := by omega
    clear RB SU R6
    cases fail with
    | true =>
        go_wp2_with fail
        refine (is_wrap_same N 0 ⟨w.heap.size, 0, none⟩ _ hc).mono ?_
        rintro e w9 ⟨rfl, rfl⟩
        go_wp2
        go_ret
        exact ⟨rfl, hbw⟩
    | false =>
        have hlt : (tl : Int) < (pos : Int) + (n : Int) := by rcases hcond with h | h; cases h; omega
        go_wp2_with fail
        refine (is_wrap_same N 0 ⟨w.heap.size, 0, none⟩ _ hc).mono ?_
        rintro e w9 ⟨rfl, rfl⟩
        go_wp2
        go_ret
        exact ⟨rfl, hbw⟩
  · subst hf
    obtain ⟨c0, c1, c2, c3, c5, c6, c7, c17, c18, f17⟩ := RB.dc.cells
    obtain ⟨g1, k1, g2, k2, R6, e1, e2⟩ := RB.rw
    obtain ⟨r0, r1, r2, r3, r4, _, _⟩ := R6.cell
    obtain ⟨HB6, HT6, hbw⟩ := SU.after RB
    have PB6 := hB.later (Nat.le_refl _) hbw
    have PT6 := hT.later (Nat.le_refl _) hbw
    have S6 := hS.later (Nat.le_refl _) hbw
    have g0 := S6.g0
    have g1 := S6.g1
    have g2 := S6.g2
    clear hS5 hS hB hT hX hF5 hD5
    have hq1 := neqW27 ⟨rb, 0, none⟩
    have hq2 := fun w => Lib.run_eql_slice_nil (P := Ybaf.prog) w 22 5 none 0 0 0 0 Ybaf.underlying22
    have hq3 := fun w => run_neq_slice_nil_any (P := Ybaf.prog) w 22 5 none 0 0 0 0 Ybaf.underlying22
    go_wp2_with fail
    refine (equal_same HB6 PB6).mono ?_
    rintro e w7 ⟨rfl, rfl⟩
    go_wp2_with fail
    refine (equal_same HT6 PT6).mono ?_
    rintro e w8 ⟨rfl, rfl⟩
    have h1 : ¬ wr < (pos : Int) := by omega
    have h2 : ¬ wr - (pos : Int) < (n : Int) := by omega
    have h3 : ¬ mw < (n : Int) := by omega
    have h4 : (pos : Int) + (n : Int) ≤ 9223372036854775807 := by omega
    have HG6 : Has w8 go n ((ts.drop pos).take n) := own_has (by rw [List.length_take, List.length_drop, htl]; omega) hown
    have HPT := PT6.part pos n hfit
    have h5 : (pos : Int) + (n : Int) ≤ (tc : Int) := by omega
    have h6 : ¬ (tl : Int) < (pos : Int) + (n : Int) := by omega
    have HZ : n = 0 → ∀ p : Option Addr, Has w8 p n ((ts.drop pos).take n) := fun e p => by
      rw [e]
      have e2 : (ts.drop pos).take 0 = [] := by simp
      rw [e2]; exact Has.nil _ _
    clear RB SU R6 hown
    by_cases hcp : tc = pos
    · have hn0 : Hid (n = 0) := by show n = 0; omega
      go_wp2_with fail
      refine (equal_same HG6 (HZ hn0.out _)).mono ?_
      rintro e w9 ⟨rfl, rfl⟩
      go_wp2_with fail
      refine (equal_same HG6 HG6).mono ?_
      rintro e w10 ⟨rfl, rfl⟩
      go_wp2
      go_ret
      exact ⟨rfl, hbw⟩
    · skip
      go_wp2_with fail
      refine (equal_same HG6 HPT).mono ?_
      rintro e w9 ⟨rfl, rfl⟩
      go_wp2_with fail
      refine (equal_same HG6 HG6).mono ?_
      rintro e w10 ⟨rfl, rfl⟩
      go_wp2
      go_ret
      exact ⟨rfl, hbw⟩

end Go.Proofs.YbulkdyqiFmt
