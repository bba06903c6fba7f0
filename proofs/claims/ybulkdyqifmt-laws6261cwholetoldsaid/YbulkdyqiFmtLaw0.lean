/-
  LawS6261CWhole: what the law has built when it calls segment.
-/
import Derived.Test.YbulkdyqiFmtSegW
import Derived.Test.YbulkdyqiFmtIs
import Derived.LaidEql
namespace Go.Proofs.YbulkdyqiFmt
open Go.RowKit Go.Extern.Stop Go.Stop Go.Extern
set_option maxRecDepth 100000

theorem run_neq_iface_ptr_same {P : Program} (w : World) {ti tp te : TypeId} {ms : Array (String × TypeId)} {i j : TypeInfo} (a : Addr)
    (hi : P.underlying ti = some (.interface ms)) (hp : P.underlying tp = some (.pointer te)) (hinfo : P.info? tp = some i) (hcomp : i.comparable = true) (hte : P.info? te = some j) :
    (binOp .neq ti (.iface tp (.pointer (some a))) (.iface tp (.pointer (some a)))).run P w = .ok (.bool false) w := by
  simp only [binOp]
  simp [Op.equal, Op.maxDepth, run_equalIn_iface_ptr_same w 9998 a hi hp hinfo hcomp hte]

theorem neqW27 (a : Addr) (w : World) : (binOp .neq 33 (.iface 27 (.pointer (some a))) (.iface 27 (.pointer (some a)))).run Ybaf.prog w = .ok (.bool false) w := by
  obtain ⟨i, hi, hc⟩ := Option.map_eq_some_iff.1 (show (Ybaf.prog.info? 27).map (·.comparable) = some true by kernel_rfl)
  obtain ⟨j, hj, _⟩ := Option.map_eq_some_iff.1 (show (Ybaf.prog.info? 31).map (·.size) = some 5 by kernel_rfl)
  exact run_neq_iface_ptr_same w a Ybaf.underlying33 Ybaf.underlying27 hi hc hj
theorem neqW34 (a : Addr) (w : World) : (binOp .neq 33 (.iface 34 (.pointer (some a))) (.iface 34 (.pointer (some a)))).run Ybaf.prog w = .ok (.bool false) w := by
  obtain ⟨i, hi, hc⟩ := Option.map_eq_some_iff.1 (show (Ybaf.prog.info? 34).map (·.comparable) = some true by kernel_rfl)
  obtain ⟨j, hj, _⟩ := Option.map_eq_some_iff.1 (show (Ybaf.prog.info? 36).map (·.size) = some 1 by kernel_rfl)
  exact run_neq_iface_ptr_same w a Ybaf.underlying33 Ybaf.underlying34 hi hc hj

theorem new_any (s : ByteArray) (w : World) : Calls Ybaf.prog 4 #[.string s] w fun e w' => e = .returned (.iface 50 (.pointer (some ⟨w.heap.size, 0, none⟩))) ∧ w' = w.alloc (.cells #[.string s] 52) := by
  go_enter Ybaf.func4, Ybaf.ntmps4
  go_wp2
  go_ret
  exact ⟨rfl, rfl⟩

/-- The clone, whatever came in. -/
theorem clone_any (pa : Option Addr) (n cap : Nat) (zs : List Int) (w : World) (hl : n ≤ 1048576) (hnil : pa = none → n = 0 ∧ cap = 0) (hc : Has w pa n zs) :
    Calls Ybaf.prog 5 #[.slice pa n cap] w fun e w' => ∃ ao cap', e = .returned (.slice ao n cap') ∧ w'.ownsRow w.heap.size 5 1 (.slice ao n cap') n (u8s zs) ∧ Below w.heap.size w w' := by
  cases pa with
  | none =>
    obtain ⟨rfl, rfl⟩ := hnil rfl
    have hz : zs = [] := List.eq_nil_of_length_eq_zero hc.1
    subst hz
    refine (clone_nil w).mono ?_
    rintro e w' ⟨rfl, rfl⟩
    exact ⟨none, 0, rfl, World.ownsRow_nil _ _ _ _, Below.refl _ _⟩
  | some x =>
    refine (clone_some x n cap zs w hl hc).mono ?_
    rintro e w' ⟨g, cap', rfl, h1, h2⟩
    exact ⟨some ⟨g, 0, none⟩, cap', rfl, h1, h2⟩

/-- What the law has built when it calls segment: in W, out of w. -/
structure Setup (w W : World) (db rb base : Nat) (fe : Addr) (sf : ByteArray) (bo ta so : Option Addr) (bl bc tl tc sl sc : Nat) (bs ts ss : List Int) (wv : Value) (fail : Bool) (mw wr wn : Int) : Prop where
  dc : Dc W db (.slice bo bl bc) wv mw wr wn (.slice so sl sc)
  rw : Rw W rb (.slice ta tl tc) fail fe (.slice none 0 0) (.slice none 0 0)
  hb : W.ownsRow (w.heap.size + 1) 5 1 (.slice bo bl bc) bl (u8s bs)
  ht : W.ownsRow (w.heap.size + 1) 5 1 (.slice ta tl tc) tl (u8s ts)
  hs : W.ownsRow base 5 1 (.slice so sl sc) sl (u8s ss)
  hbl : bs.length = bl
  htl : ts.length = tl
  hfe : W.cell? fe = some (.string sf)
  hfeb : fe.block = w.heap.size
  hbase : w.heap.size + 1 ≤ base ∧ base ≤ W.heap.size
  hrbb : w.heap.size + 1 ≤ rb
  hdbb : w.heap.size + 1 ≤ db
  hba : ∀ g, (Value.slice bo bl bc).ownBlock = some g → g < base
  htaa : ∀ g, (Value.slice ta tl tc).ownBlock = some g → g < base
  hrba : rb < base
  below : Below w.heap.size w W

theorem ownsRow_low {w : World} {base base' : Nat} {e : TypeId} {size : Nat} {v : Value} {n : Nat} {xs : List Value} (h : w.ownsRow base e size v n xs) (hb : base' ≤ base) : w.ownsRow base' e size v n xs := by
  obtain ⟨h1, h2⟩ := h
  refine ⟨h1, ?_⟩
  rcases h2 with h2 | ⟨g, cap, cur, rfl, hbg, hr⟩
  · exact .inl h2
  · exact .inr ⟨g, cap, cur, rfl, by omega, hr⟩

theorem setup {w w1 w2 W3 w4 : World} {sf : ByteArray} {bo ta so : Option Addr} {bl bc tl tc sl sc : Nat} {bs ts ss : List Int} {wv : Value} {fail : Bool} {mw wr wn : Int}
    (h1 : w1.ownsRow (w.alloc (.cells #[.string sf] 52)).heap.size 5 1 (.slice bo bl bc) bl (u8s bs)) (b1 : Below (w.alloc (.cells #[.string sf] 52)).heap.size (w.alloc (.cells #[.string sf] 52)) w1)
    (h2 : w2.ownsRow w1.heap.size 5 1 (.slice ta tl tc) tl (u8s ts)) (b2 : Below w1.heap.size w1 w2)
    (b3 : Below (w2.alloc (.cells #[.slice ta tl tc, .bool fail, .iface 50 (.pointer (some ⟨w.heap.size, 0, none⟩)), .slice none 0 0, .slice none 0 0] 31)).heap.size (w2.alloc (.cells #[.slice ta tl tc, .bool fail, .iface 50 (.pointer (some ⟨w.heap.size, 0, none⟩)), .slice none 0 0, .slice none 0 0] 31)) W3)
    (h4 : w4.ownsRow W3.heap.size 5 1 (.slice so sl sc) sl (u8s ss)) (b4 : Below W3.heap.size W3 w4) (hbl : bs.length = bl) (htl : ts.length = tl) :
    Setup w (w4.alloc (.cells #[.pointer none, .slice bo bl bc, wv, .int .i64 mw, .int .i64 0, .int .i64 0, .int .i64 wr, .int .i64 wn, .slice none 0 0, .int .i64 0, .int .i8 0, .slice none 0 0, .int .i64 0, .int .i8 0, .slice none 0 0, .int .i64 0, .int .i8 0, .slice so sl sc, .slice none 0 0] 44))
      w4.heap.size w2.heap.size W3.heap.size ⟨w.heap.size, 0, none⟩ sf bo ta so bl bc tl tc sl sc bs ts ss wv fail mw wr wn := by
  have s1 := b1.size
  have s2 := b2.size
  have s3 := b3.size
  have s4 := b4.size
  simp only [World.size_alloc] at s1 s3
  have k1 : Kept (fun _ => False) w1 w2 := .of_below b2
  have k2 : Kept (fun _ => False) w2 W3 := (Kept.alloc _ w2 _).trans (.of_below b3)
  have k4 : Kept (fun _ => False) W3 (w4.alloc (.cells #[.pointer none, .slice bo bl bc, wv, .int .i64 mw, .int .i64 0, .int .i64 0, .int .i64 wr, .int .i64 wn, .slice none 0 0, .int .i64 0, .int .i8 0, .slice none 0 0, .int .i64 0, .int .i8 0, .slice none 0 0, .int .i64 0, .int .i8 0, .slice so sl sc, .slice none 0 0] 44)) := (Kept.of_below b4).trans (Kept.alloc _ w4 _)
  have keep : ∀ {X Y : World} {b : Nat} {v : Value} {n : Nat} {xs : List Value}, Kept (fun _ => False) X Y → X.ownsRow b 5 1 v n xs → Y.ownsRow b 5 1 v n xs := fun k h => ownsRow_keep h fun g hg => k.block g (h.lt g hg).2 (fun h => h)
  have e0 : (w.alloc (.cells #[.string sf] 52)).cell? ⟨w.heap.size, 0, none⟩ = some (.string sf) := by simp
  have k0 : Kept (fun _ => False) (w.alloc (.cells #[.string sf] 52)) w1 := .of_below b1
  refine ⟨heap_alloc_new w4 _, ?_, ?_, ?_, keep (Kept.alloc _ w4 _) h4, hbl, htl, (((k0.trans k1).trans k2).trans k4).cell e0 (fun h => h), rfl, ⟨by omega, by simp; omega⟩, by omega, by omega, ?_, ?_, by omega, ?_⟩
  · have r : Rw (w2.alloc (.cells #[.slice ta tl tc, .bool fail, .iface 50 (.pointer (some ⟨w.heap.size, 0, none⟩)), .slice none 0 0, .slice none 0 0] 31)) w2.heap.size (.slice ta tl tc) fail ⟨w.heap.size, 0, none⟩ (.slice none 0 0) (.slice none 0 0) := heap_alloc_new w2 _
    exact r.kept ((Kept.of_below b3).trans k4) (fun h => h)
  · exact ownsRow_low (keep ((k1.trans k2).trans k4) h1) (by simp)
  · exact ownsRow_low (keep (k2.trans k4) h2) (by omega)
  · intro g hg
    have := (h1.lt g hg).2
    omega
  · intro g hg
    have := (h2.lt g hg).2
    omega
  · have kk : Kept (fun _ => False) w (w4.alloc (.cells #[.pointer none, .slice bo bl bc, wv, .int .i64 mw, .int .i64 0, .int .i64 0, .int .i64 wr, .int .i64 wn, .slice none 0 0, .int .i64 0, .int .i8 0, .slice none 0 0, .int .i64 0, .int .i8 0, .slice none 0 0, .int .i64 0, .int .i8 0, .slice so sl sc, .slice none 0 0] 44)) := ((((Kept.alloc _ w _).trans k0).trans k1).trans k2).trans k4
    exact kk.below (Nat.le_refl _) (fun _ h => h.elim)

end Go.Proofs.YbulkdyqiFmt
