/-
  THE WALK of '(*decoder).segment': the target is read back.
-/
import Derived.Test.YbulkdyqiFmtSegR
namespace Go.Proofs.YbulkdyqiFmt
open Go.RowKit Go.Extern.Stop Go.Stop Go.Extern
set_option maxRecDepth 100000

theorem fmt4 (w : World) : (FmtDoors.printed ⟨#[119, 105, 110, 100, 111, 119, 32, 37, 100, 58, 32, 114, 101, 97, 100, 105, 110, 103, 32, 98, 97, 99, 107, 32, 116, 104, 101, 32, 116, 97, 114, 103, 101, 116, 32, 100, 101, 99, 111, 100, 101, 100, 58, 32, 37, 119]⟩ 2).run Ybaf.prog w = .ok [(0, 100, false), (1, 119, false)] w := by kernel_rfl

/-- ReadAt's contract, its outcome under one shape. -/
theorem read_uni (rb base base' : Nat) (ta so : Option Addr) (tl tc n sc pos : Nat) (ts : List Int) (ys : List Value) (fail : Bool) (fe : Addr) (w : World) (hR : Rw w rb (.slice ta tl tc) fail fe (.slice none 0 0) (.slice none 0 0))
    (hp : (pos : Int) ≤ 9223372036854775807) (hl : ts.length = tl) (hT : w.ownsRow base' 5 1 (.slice ta tl tc) tl (u8s ts)) (hS : w.ownsRow base 5 1 (.slice so n sc) n ys) :
    Calls Ybaf.prog 31 #[.pointer (some ⟨rb, 0, none⟩), .slice so n sc, .int .i64 pos] w fun e w' =>
      ∃ k er, e = .returned (.tuple #[.int .i64 k, er]) ∧ Hid (∃ sb, (sb = rb ∨ (Value.slice so n sc).ownBlock = some sb) ∧ Logged rb sb (.slice ta tl tc) fail fe pos n w w') ∧
      Hid (((fail = true ∨ tl < pos + n) ∧ er = .iface 50 (.pointer (some fe))) ∨
       (fail = false ∧ pos + n ≤ tl ∧ er = .nilIface ∧ w'.ownsRow base 5 1 (.slice so n sc) n (u8s ((ts.drop pos).take n)))) := by
  refine (read_any rb base base' ta so tl tc n sc pos ts ys fail fe w hR hp hl hT hS).mono ?_
  rintro e w' ⟨sb, hsb, hL, ⟨h1, k, rfl⟩ | ⟨h1, h2, rfl, h3⟩⟩
  · exact ⟨k, _, rfl, ⟨sb, hsb, hL⟩, .inl ⟨h1, rfl⟩⟩
  · exact ⟨n, _, rfl, ⟨sb, hsb, hL⟩, .inr ⟨h1, h2, rfl, h3⟩⟩

theorem ReadBack.later {db rb : Nat} {bv wv : Value} {mw wr wn : Int} {so : Option Addr} {tv : Value} {fail : Bool} {fe : Addr} {pos n : Int} {sv : Value} {w w2 w3 : World} (h : ReadBack db rb bv wv mw wr wn so tv fail fe pos n sv w w2) (hb : Below w2.heap.size w2 w3) :
    ReadBack db rb bv wv mw wr wn so tv fail fe pos n sv w w3 := by
  obtain ⟨⟨g1, c1, g2, c2, r, e1, e2⟩, d, k⟩ := h
  have k3 : Kept (fun _ => False) w2 w3 := .of_below hb
  exact ⟨⟨g1, c1, g2, c2, r.kept k3 (fun h => h), k3.cell e1 (fun h => h), k3.cell e2 (fun h => h)⟩, d.kept k3 (fun h => h), k.trans (k3.mono fun _ h => h.elim)⟩

/-- How the read back ends. -/
def Seg4 (base db rb : Nat) (bv wv : Value) (mw wr wn : Int) (so : Option Addr) (ta : Option Addr) (tl tc : Nat) (ts : List Int) (fail : Bool) (fe : Addr) (pos n : Nat) (w : World) (e : Ending) (w' : World) : Prop :=
  (∃ N sv, e = .returned (.tuple #[.slice none 0 0, .iface 67 (.pointer (some ⟨N, 0, none⟩))]) ∧ (fail = true ∨ tl < pos + n) ∧ w'.cell? ⟨N, 0 + 1, none⟩ = some (.iface 50 (.pointer (some fe))) ∧ ReadBack db rb bv wv mw wr wn so (.slice ta tl tc) fail fe pos n sv w w') ∨
  (∃ go cap', e = .returned (.tuple #[.slice go n cap', .nilIface]) ∧ fail = false ∧ pos + n ≤ tl ∧ w'.ownsRow base 5 1 (.slice go n cap') n (u8s ((ts.drop pos).take n)) ∧ ReadBack db rb bv wv mw wr wn so (.slice ta tl tc) fail fe pos n (.slice go n cap') w w')

/-- fmt.Errorf at the read's own error. -/
theorem Errorf_R (F : Interp) (wn : Int) (fe : Addr) (sf : ByteArray) (w : World) (hF : F.answers w.tape) (hs : w.cell? fe = some (.string sf)) :
    Calls Ybaf.prog 10 #[.string ⟨#[119, 105, 110, 100, 111, 119, 32, 37, 100, 58, 32, 114, 101, 97, 100, 105, 110, 103, 32, 98, 97, 99, 107, 32, 116, 104, 101, 32, 116, 97, 114, 103, 101, 116, 32, 100, 101, 99, 111, 100, 101, 100, 58, 32, 37, 119]⟩, .slice (some ⟨w.heap.size, 0, none⟩) 2 2]
      (w.alloc (.cells #[.iface 3 (.int .i64 wn), .iface 50 (.pointer (some fe))] 20)) (Wraps fe w) := by
  have ha : fe.block < w.heap.size := World.block_lt_of_cell? _ _ hs
  have hE1 : Below w.heap.size w (w.alloc (.cells #[.iface 3 (.int .i64 wn), .iface 50 (.pointer (some fe))] 20)) := (Below.refl _ w).alloc (Nat.le_refl _) _
  obtain ⟨sh, h50⟩ := op50 "fmt.errorf" fe sf (w.alloc (.cells #[.iface 3 (.int .i64 wn), .iface 50 (.pointer (some fe))] 20)) (by rw [hE1.cell (p := fe) ha]; exact hs)
  exact Errorf_at F _ [.iface 3 (.int .i64 wn), .iface 50 (.pointer (some fe))] _ 1 fe 2 w _ rfl (by simp) hE1 (by simp) (heap_alloc_new w _) hF (fmt4 _) ⟨_, by simp [FmtStop.readAll, op3, h50]; rfl⟩ rfl rfl

set_option maxHeartbeats 1000000 in
theorem seg_B4_some (F : Interp) (base base' db rb sg : Nat) (bv : Value) (mw wr wn : Int) (sl sc : Nat) (xs : List Value) (ta : Option Addr) (tl tc : Nat) (ts : List Int) (fail : Bool) (fe : Addr) (ind : Int) (n pos : Nat) (w : World) (hF : F.answers w.tape)
    (hD : Dc w db bv (.iface 27 (.pointer (some ⟨rb, 0, none⟩))) mw wr wn (.slice (some ⟨sg, 0, none⟩) sl sc)) (hR : Rw w rb (.slice ta tl tc) fail fe (.slice none 0 0) (.slice none 0 0)) (hl : ts.length = tl) (hT : w.ownsRow base' 5 1 (.slice ta tl tc) tl (u8s ts)) (hX : w.ownsRow base 5 1 (.slice (some ⟨sg, 0, none⟩) sl sc) sl xs)
    (hb : base ≤ w.heap.size) (sf : ByteArray) (hfe : w.cell? fe = some (.string sf)) (hfd : fe.block ≠ db) (hfr : fe.block ≠ rb) (hfs : fe.block ≠ sg)
    (hI : (bits BinOp.and IntKind.u8 ind 1 != 0) = false) (hI2 : (bits BinOp.and IntKind.u8 ind 2 != 0) = true) (hn : n ≤ 1048576) (hwr : wr ≤ 9223372036854775807) (hr : (pos : Int) ≤ wr ∧ (n : Int) ≤ wr - (pos : Int)) (hm : (n : Int) ≤ mw) :
    Calls Ybaf.prog 6 #[.pointer (some ⟨db, 0, none⟩), .int .u8 ind, .int .i64 n, .int .i64 pos] w (Seg4 base db rb bv (.iface 27 (.pointer (some ⟨rb, 0, none⟩))) mw wr wn (some ⟨sg, 0, none⟩) ta tl tc ts fail fe pos n w) := by
  obtain ⟨c0, c1, c2, c3, c5, c6, c7, c17, c18, f17⟩ := hD.cells
  have hn' : (n : Int) ≤ 1048576 := by omega
  have hpos : 0 ≤ (pos : Int) := by omega
  have h1 : ¬ wr < (pos : Int) := by omega
  have h2 : ¬ wr - (pos : Int) < (n : Int) := by omega
  have h3 : ¬ mw < (n : Int) := by omega
  have hdb := hD.lt
  have hra := hasReadAt (.pointer (some ⟨rb, 0, none⟩)) 33
  have hna := nilAheadR ⟨rb, 0, none⟩
  have hme := methodR ⟨rb, 0, none⟩
  go_enter Ybaf.func6, Ybaf.ntmps6
  go_wp2_with (go_at_call 11; refine (grow_some base sl sc n (some ⟨sg, 0, none⟩) xs w hn hb hX (.inl (by simp))).mono ?_; rintro e w1 ⟨g, cap', rfl, hnc, hcm, ⟨ys, hys⟩, hb1, hgf⟩; have k17 := (hb1.cell (p := ⟨db, 17, none⟩) hdb).trans c17; have kf17 := (hb1.frozen (p := ⟨db, 17, none⟩) hdb).trans f17; have hnc' : (n : Int) ≤ (cap' : Int) := by omega)
  obtain ⟨D1, R1, T1, Y1, K1⟩ := before_read hD hR hT hb1 hys
  have R1d : Rw (w1.setCell ⟨db, 17, none⟩ (.slice (some ⟨g, 0, none⟩) n cap')).drew rb (.slice ta tl tc) fail fe (.slice none 0 0) (.slice none 0 0) := R1
  have T1d : ((w1.setCell ⟨db, 17, none⟩ (.slice (some ⟨g, 0, none⟩) n cap')).drew).ownsRow base' 5 1 (.slice ta tl tc) tl (u8s ts) := T1
  have Y1d : ((w1.setCell ⟨db, 17, none⟩ (.slice (some ⟨g, 0, none⟩) n cap')).drew).ownsRow base 5 1 (.slice (some ⟨g, 0, none⟩) n cap') n ys := Y1
  have hpp : (pos : Int) ≤ 9223372036854775807 := by omega
  go_region_with (go_at_call 31; refine (read_uni rb base base' ta (some ⟨g, 0, none⟩) tl tc n cap' pos ts ys fail fe _ R1d hpp hl T1d Y1d).mono ?_; rintro e w2 ⟨k2, er, rfl, hL, hor⟩)
  all_goals
    obtain ⟨sb, hsb, hL⟩ := hL.out
    have RB : ReadBack db rb bv (.iface 27 (.pointer (some ⟨rb, 0, none⟩))) mw wr wn (some ⟨sg, 0, none⟩) (.slice ta tl tc) fail fe pos n (.slice (some ⟨g, 0, none⟩) n cap') w w2 :=
      after_read (W := (w1.setCell ⟨db, 17, none⟩ (.slice (some ⟨g, 0, none⟩) n cap')).drew) D1 (K1.trans (Kept.drew _ _)) hL (hD.ne hR) rfl (fun e => D1.apart Y1 (by rw [← e]; rfl)) hsb hgf
    obtain ⟨y0, y1, y2, y3, y5, y6, y7, y17, y18, z17⟩ := RB.dc.cells
    have hfe2 : w2.cell? fe = some (.string sf) := RB.kept.cell hfe (by rintro (h | h | h); exact hfd h; exact hfr h; exact hfs (by simpa using h.symm))
    have hF2 : F.answers w2.tape := by rw [RB.kept.tape]; exact hF
    clear R1d T1d Y1d D1 R1 T1 Y1 K1 hL hsb hys hb1 k17 kf17 hX hT hD hR c0 c1 c2 c3 c5 c6 c7 c17 c18 f17
    rcases hor.out with ⟨h1, rfl⟩ | ⟨rfl, h2, rfl, h3⟩
    · go_wp2_with (go_at_call 10; refine (Errorf_R F wn fe sf w2 hF2 hfe2).mono ?_; rintro e w3 ⟨N, rfl, hN, hc, hbel⟩)
      go_ret2
      exact .inl ⟨N, _, rfl, h1, hc, RB.later hbel⟩
    · go_wp2
      go_ret2
      exact .inr ⟨_, _, rfl, rfl, h2, h3, RB⟩

set_option maxHeartbeats 1000000 in
theorem seg_B4_nil (F : Interp) (base base' db rb : Nat) (bv : Value) (mw wr wn : Int) (ta : Option Addr) (tl tc : Nat) (ts : List Int) (fail : Bool) (fe : Addr) (ind : Int) (n pos : Nat) (w : World) (hF : F.answers w.tape)
    (hD : Dc w db bv (.iface 27 (.pointer (some ⟨rb, 0, none⟩))) mw wr wn (.slice none 0 0)) (hR : Rw w rb (.slice ta tl tc) fail fe (.slice none 0 0) (.slice none 0 0)) (hl : ts.length = tl) (hT : w.ownsRow base' 5 1 (.slice ta tl tc) tl (u8s ts))
    (hb : base ≤ w.heap.size) (sf : ByteArray) (hfe : w.cell? fe = some (.string sf)) (hfd : fe.block ≠ db) (hfr : fe.block ≠ rb)
    (hI : (bits BinOp.and IntKind.u8 ind 1 != 0) = false) (hI2 : (bits BinOp.and IntKind.u8 ind 2 != 0) = true) (hn : n ≤ 1048576) (hn0 : 0 < n) (hwr : wr ≤ 9223372036854775807) (hr : (pos : Int) ≤ wr ∧ (n : Int) ≤ wr - (pos : Int)) (hm : (n : Int) ≤ mw) :
    Calls Ybaf.prog 6 #[.pointer (some ⟨db, 0, none⟩), .int .u8 ind, .int .i64 n, .int .i64 pos] w (Seg4 base db rb bv (.iface 27 (.pointer (some ⟨rb, 0, none⟩))) mw wr wn none ta tl tc ts fail fe pos n w) := by
  obtain ⟨c0, c1, c2, c3, c5, c6, c7, c17, c18, f17⟩ := hD.cells
  have hn' : (n : Int) ≤ 1048576 := by omega
  have hpos : 0 ≤ (pos : Int) := by omega
  have h1 : ¬ wr < (pos : Int) := by omega
  have h2 : ¬ wr - (pos : Int) < (n : Int) := by omega
  have h3 : ¬ mw < (n : Int) := by omega
  have hdb := hD.lt
  have hra := hasReadAt (.pointer (some ⟨rb, 0, none⟩)) 33
  have hna := nilAheadR ⟨rb, 0, none⟩
  have hme := methodR ⟨rb, 0, none⟩
  go_enter Ybaf.func6, Ybaf.ntmps6
  go_wp2_with (go_at_call 11; refine (grow_some base 0 0 n none [] w hn hb (World.ownsRow_nil _ _ _ _) (.inr hn0)).mono ?_; rintro e w1 ⟨g, cap', rfl, hnc, hcm, ⟨ys, hys⟩, hb1, hgf⟩; have k17 := (hb1.cell (p := ⟨db, 17, none⟩) hdb).trans c17; have kf17 := (hb1.frozen (p := ⟨db, 17, none⟩) hdb).trans f17; have hnc' : (n : Int) ≤ (cap' : Int) := by omega)
  obtain ⟨D1, R1, T1, Y1, K1⟩ := before_read hD hR hT hb1 hys
  have R1d : Rw (w1.setCell ⟨db, 17, none⟩ (.slice (some ⟨g, 0, none⟩) n cap')).drew rb (.slice ta tl tc) fail fe (.slice none 0 0) (.slice none 0 0) := R1
  have T1d : ((w1.setCell ⟨db, 17, none⟩ (.slice (some ⟨g, 0, none⟩) n cap')).drew).ownsRow base' 5 1 (.slice ta tl tc) tl (u8s ts) := T1
  have Y1d : ((w1.setCell ⟨db, 17, none⟩ (.slice (some ⟨g, 0, none⟩) n cap')).drew).ownsRow base 5 1 (.slice (some ⟨g, 0, none⟩) n cap') n ys := Y1
  have hpp : (pos : Int) ≤ 9223372036854775807 := by omega
  go_region_with (go_at_call 31; refine (read_uni rb base base' ta (some ⟨g, 0, none⟩) tl tc n cap' pos ts ys fail fe _ R1d hpp hl T1d Y1d).mono ?_; rintro e w2 ⟨k2, er, rfl, hL, hor⟩)
  all_goals
    obtain ⟨sb, hsb, hL⟩ := hL.out
    have RB : ReadBack db rb bv (.iface 27 (.pointer (some ⟨rb, 0, none⟩))) mw wr wn none (.slice ta tl tc) fail fe pos n (.slice (some ⟨g, 0, none⟩) n cap') w w2 :=
      after_read (W := (w1.setCell ⟨db, 17, none⟩ (.slice (some ⟨g, 0, none⟩) n cap')).drew) D1 (K1.trans (Kept.drew _ _)) hL (hD.ne hR) rfl (fun e => D1.apart Y1 (by rw [← e]; rfl)) hsb hgf
    obtain ⟨y0, y1, y2, y3, y5, y6, y7, y17, y18, z17⟩ := RB.dc.cells
    have hfe2 : w2.cell? fe = some (.string sf) := RB.kept.cell hfe (by rintro (h | h | h); exact hfd h; exact hfr h; cases h)
    have hF2 : F.answers w2.tape := by rw [RB.kept.tape]; exact hF
    clear R1d T1d Y1d D1 R1 T1 Y1 K1 hL hsb hys hb1 k17 kf17 hT hD hR c0 c1 c2 c3 c5 c6 c7 c17 c18 f17
    rcases hor.out with ⟨h1, rfl⟩ | ⟨rfl, h2, rfl, h3⟩
    · go_wp2_with (go_at_call 10; refine (Errorf_R F wn fe sf w2 hF2 hfe2).mono ?_; rintro e w3 ⟨N, rfl, hN, hc, hbel⟩)
      go_ret2
      exact .inl ⟨N, _, rfl, h1, hc, RB.later hbel⟩
    · go_wp2
      go_ret2
      exact .inr ⟨_, _, rfl, rfl, h2, h3, RB⟩

/-- What holds behind ReadAt where the segment is nil. -/
theorem after_read_nil {db rb sb : Nat} {bv wv : Value} {mw wr wn : Int} {so : Option Addr} {tv : Value} {fail : Bool} {fe : Addr} {pos n : Int} {w W w' : World}
    (hdc : Dc W db bv wv mw wr wn (.slice none 0 0)) (hk : Kept (fun k => k = db) w W) (hL : Logged rb sb tv fail fe pos n W w') (hne : db ≠ rb) (hs : sb = rb ∨ (Value.slice none 0 0).ownBlock = some sb) :
    ReadBack db rb bv wv mw wr wn so tv fail fe pos n (.slice none 0 0) w w' := by
  obtain ⟨⟨g1, c1, g2, c2, r, e1, e2, _, _⟩, k⟩ := hL
  have hsb : sb = rb := by
    rcases hs with h | h
    · exact h
    · cases h
  subst hsb
  refine ⟨⟨g1, c1, g2, c2, r, e1, e2⟩, hdc.kept k (by rintro (e | e) <;> exact hne e), ?_⟩
  exact (hk.mono fun _ h => .inl h).trans (k.mono fun _ h => .inr (.inl (by rcases h with h | h <;> exact h)))

set_option maxHeartbeats 1000000 in
theorem seg_B4_zero (F : Interp) (base base' db rb : Nat) (bv : Value) (mw wr wn : Int) (ta : Option Addr) (tl tc : Nat) (ts : List Int) (fail : Bool) (fe : Addr) (ind : Int) (pos : Nat) (w : World) (hF : F.answers w.tape)
    (hD : Dc w db bv (.iface 27 (.pointer (some ⟨rb, 0, none⟩))) mw wr wn (.slice none 0 0)) (hR : Rw w rb (.slice ta tl tc) fail fe (.slice none 0 0) (.slice none 0 0)) (hl : ts.length = tl) (hT : w.ownsRow base' 5 1 (.slice ta tl tc) tl (u8s ts))
    (sf : ByteArray) (hfe : w.cell? fe = some (.string sf)) (hfd : fe.block ≠ db) (hfr : fe.block ≠ rb)
    (hI : (bits BinOp.and IntKind.u8 ind 1 != 0) = false) (hI2 : (bits BinOp.and IntKind.u8 ind 2 != 0) = true) (hwr : wr ≤ 9223372036854775807) (hr : (pos : Int) ≤ wr ∧ 0 ≤ wr - (pos : Int)) (hm : 0 ≤ mw) :
    Calls Ybaf.prog 6 #[.pointer (some ⟨db, 0, none⟩), .int .u8 ind, .int .i64 0, .int .i64 pos] w (Seg4 base db rb bv (.iface 27 (.pointer (some ⟨rb, 0, none⟩))) mw wr wn none ta tl tc ts fail fe pos 0 w) := by
  obtain ⟨c0, c1, c2, c3, c5, c6, c7, c17, c18, f17⟩ := hD.cells
  have hpos : 0 ≤ (pos : Int) := by omega
  have h1 : ¬ wr < (pos : Int) := by omega
  have h2 : ¬ wr - (pos : Int) < 0 := by omega
  have h3 : ¬ mw < 0 := by omega
  have hdb := hD.lt
  have hra := hasReadAt (.pointer (some ⟨rb, 0, none⟩)) 33
  have hna := nilAheadR ⟨rb, 0, none⟩
  have hme := methodR ⟨rb, 0, none⟩
  go_enter Ybaf.func6, Ybaf.ntmps6
  go_wp2_with (go_at_call 11; refine (grow_room none 0 0 w (by omega) (Nat.le_refl _)).mono ?_; rintro e w1 ⟨rfl, hw1⟩; have hw2 := hw1.symm; subst hw2; clear hw1)
  obtain ⟨D1, R1, T1, Y1, K1⟩ := before_read (n := 0) hD hR hT (Below.refl _ _) (World.ownsRow_nil _ base _ _)
  have R1d : Rw (w.setCell ⟨db, 17, none⟩ (.slice none 0 0)).drew rb (.slice ta tl tc) fail fe (.slice none 0 0) (.slice none 0 0) := R1
  have T1d : ((w.setCell ⟨db, 17, none⟩ (.slice none 0 0)).drew).ownsRow base' 5 1 (.slice ta tl tc) tl (u8s ts) := T1
  have Y1d : ((w.setCell ⟨db, 17, none⟩ (.slice none 0 0)).drew).ownsRow base 5 1 (.slice none 0 0) 0 [] := Y1
  have hpp : (pos : Int) ≤ 9223372036854775807 := by omega
  go_region_with (go_at_call 31; refine (read_uni rb base base' ta none tl tc 0 0 pos ts [] fail fe _ R1d hpp hl T1d Y1d).mono ?_; rintro e w2 ⟨k2, er, rfl, hL, hor⟩)
  all_goals
    obtain ⟨sb, hsb, hL⟩ := hL.out
    have RB : ReadBack db rb bv (.iface 27 (.pointer (some ⟨rb, 0, none⟩))) mw wr wn none (.slice ta tl tc) fail fe pos (0 : Nat) (.slice none 0 0) w w2 :=
      after_read_nil (W := (w.setCell ⟨db, 17, none⟩ (.slice none 0 0)).drew) D1 (K1.trans (Kept.drew _ _)) hL (hD.ne hR) hsb
    obtain ⟨y0, y1, y2, y3, y5, y6, y7, y17, y18, z17⟩ := RB.dc.cells
    have hfe2 : w2.cell? fe = some (.string sf) := RB.kept.cell hfe (by rintro (h | h | h); exact hfd h; exact hfr h; cases h)
    have hF2 : F.answers w2.tape := by rw [RB.kept.tape]; exact hF
    clear R1d T1d Y1d D1 R1 T1 Y1 K1 hL hsb hT hD hR c0 c1 c2 c3 c5 c6 c7 c17 c18 f17
    rcases hor.out with ⟨h1, rfl⟩ | ⟨rfl, h2, rfl, h3⟩
    · go_wp2_with (go_at_call 10; refine (Errorf_R F wn fe sf w2 hF2 hfe2).mono ?_; rintro e w3 ⟨N, rfl, hN, hc, hbel⟩)
      go_ret2
      exact .inl ⟨N, _, rfl, h1, hc, RB.later hbel⟩
    · go_wp2
      go_ret2
      exact .inr ⟨_, _, rfl, rfl, h2, h3, RB⟩

/-- The read back, whatever the segment's row. -/
theorem seg_B4 (F : Interp) (base base' db rb : Nat) (bv : Value) (mw wr wn : Int) (so : Option Addr) (sl sc : Nat) (xs : List Value) (ta : Option Addr) (tl tc : Nat) (ts : List Int) (fail : Bool) (fe : Addr) (ind : Int) (n pos : Nat) (w : World) (hF : F.answers w.tape)
    (hD : Dc w db bv (.iface 27 (.pointer (some ⟨rb, 0, none⟩))) mw wr wn (.slice so sl sc)) (hR : Rw w rb (.slice ta tl tc) fail fe (.slice none 0 0) (.slice none 0 0)) (hl : ts.length = tl) (hT : w.ownsRow base' 5 1 (.slice ta tl tc) tl (u8s ts)) (hX : w.ownsRow base 5 1 (.slice so sl sc) sl xs)
    (hb : base ≤ w.heap.size) (sf : ByteArray) (hfe : w.cell? fe = some (.string sf)) (hfd : fe.block ≠ db) (hfr : fe.block ≠ rb) (hfs : fe.block < base)
    (hI : (bits BinOp.and IntKind.u8 ind 1 != 0) = false) (hI2 : (bits BinOp.and IntKind.u8 ind 2 != 0) = true) (hn : n ≤ 1048576) (hwr : wr ≤ 9223372036854775807) (hr : (pos : Int) ≤ wr ∧ (n : Int) ≤ wr - (pos : Int)) (hm : (n : Int) ≤ mw) :
    Calls Ybaf.prog 6 #[.pointer (some ⟨db, 0, none⟩), .int .u8 ind, .int .i64 n, .int .i64 pos] w (Seg4 base db rb bv (.iface 27 (.pointer (some ⟨rb, 0, none⟩))) mw wr wn so ta tl tc ts fail fe pos n w) := by
  rcases hX.2 with ⟨h0, h1⟩ | ⟨g, cp, cur, h0, hbg, _⟩
  · simp only [Value.slice.injEq] at h0
    obtain ⟨rfl, rfl, rfl⟩ := h0
    rcases Nat.eq_zero_or_pos n with h | h
    · subst h
      exact seg_B4_zero F base base' db rb bv mw wr wn ta tl tc ts fail fe ind pos w hF hD hR hl hT sf hfe hfd hfr hI hI2 hwr hr hm
    · exact seg_B4_nil F base base' db rb bv mw wr wn ta tl tc ts fail fe ind n pos w hF hD hR hl hT hb sf hfe hfd hfr hI hI2 hn h hwr hr hm
  · simp only [Value.slice.injEq, true_and] at h0
    obtain ⟨rfl, rfl⟩ := h0
    exact seg_B4_some F base base' db rb g bv mw wr wn sl sc xs ta tl tc ts fail fe ind n pos w hF hD hR hl hT hX hb sf hfe hfd hfr (by omega) hI hI2 hn hwr hr hm

end Go.Proofs.YbulkdyqiFmt
