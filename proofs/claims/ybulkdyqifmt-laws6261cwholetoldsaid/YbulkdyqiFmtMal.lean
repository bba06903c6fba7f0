/-
  THE WALK of '(*decoder).malformed'.
-/
import Derived.Test.YbulkdyqiFmtErr
namespace Go.Proofs.YbulkdyqiFmt
open Go.RowKit Go.Extern.Stop Go.Stop Go.Extern

/-- What is known of the three sentinels in a world. -/
structure Sent (a0 a1 a2 : Addr) (w : World) : Prop where
  g0 : w.cell? ⟨0, 0, none⟩ = some (.iface 50 (.pointer (some a0)))
  g1 : w.cell? ⟨1, 0, none⟩ = some (.iface 50 (.pointer (some a1)))
  g2 : w.cell? ⟨2, 0, none⟩ = some (.iface 50 (.pointer (some a2)))
  s0 : ∃ s, w.cell? a0 = some (.string s)
  s1 : ∃ s, w.cell? a1 = some (.string s)
  s2 : ∃ s, w.cell? a2 = some (.string s)
  ne : a1 ≠ a0
  b0 : ∃ c t, w.heap[a0.block]? = some (.cells c t (0, 0))
  b1 : ∃ c t, w.heap[a1.block]? = some (.cells c t (0, 0))

theorem Sent.later {a0 a1 a2 : Addr} {w w' : World} {B : Nat} (h : Sent a0 a1 a2 w) (hB : w.heap.size ≤ B) (hb : Below B w w') : Sent a0 a1 a2 w' := by
  obtain ⟨g0, g1, g2, ⟨s0, c0⟩, ⟨s1, c1⟩, ⟨s2, c2⟩, ne, ⟨x0, t0, b0⟩, ⟨x1, t1, b1⟩⟩ := h
  have keep : ∀ {a : Addr} {v : Value}, w.cell? a = some v → w'.cell? a = some v := fun {a v} hc => by
    have := World.block_lt_of_cell? w a hc
    rw [hb.cell (by omega)]; exact hc
  have l0 := World.block_lt_of_cell? w a0 c0
  have l1 := World.block_lt_of_cell? w a1 c1
  exact ⟨keep g0, keep g1, keep g2, ⟨s0, keep c0⟩, ⟨s1, keep c1⟩, ⟨s2, keep c2⟩, ne, ⟨x0, t0, by rw [hb.block _ (by omega)]; exact b0⟩, ⟨x1, t1, by rw [hb.block _ (by omega)]; exact b1⟩⟩

/-- A new wrapped error that holds the sentinel at 'a'. -/
def Wraps (a : Addr) (w : World) (e : Ending) (w' : World) : Prop :=
  ∃ N, e = .returned (.iface 67 (.pointer (some ⟨N, 0, none⟩))) ∧ w.heap.size ≤ N ∧ w'.cell? ⟨N, 0 + 1, none⟩ = some (.iface 50 (.pointer (some a))) ∧ Below w.heap.size w w'

theorem fmtM (w : World) : (FmtDoors.printed ⟨#[37, 119, 58, 32, 119, 105, 110, 100, 111, 119, 32, 37, 100, 58, 32, 37, 115]⟩ 3).run Ybaf.prog w = .ok [(0, 119, false), (1, 100, false), (2, 115, false)] w := by kernel_rfl

/-- fmt.Errorf behind its variadic block: whatever the format and the operands, as long as each can be read. -/
theorem Errorf_at (F : Interp) (f : ByteArray) (vs : List Value) (ps : List (Nat × UInt8 × Bool)) (i : Nat) (a : Addr) (n : Nat) (w W : World) (hn : vs.length = n) (hne : vs ≠ [])
    (hW : Below w.heap.size w W) (hWs : W.heap.size = w.heap.size + 1) (hWb : W.heap[w.heap.size]? = some (.cells vs.toArray 20 (0, 0))) (hF : F.answers w.tape)
    (hp : (FmtDoors.printed f vs.length).run Ybaf.prog W = .ok ps W) (hr : ∃ rs, (FmtStop.readAll "fmt.errorf" true vs ps).run Ybaf.prog W = .ok rs W)
    (hw : ps.filter (·.2.1 == 119) = [(i, 119, false)]) (hi : vs[i]? = some (.iface 50 (.pointer (some a)))) :
    Calls Ybaf.prog 10 #[.string f, .slice (some ⟨w.heap.size, 0, none⟩) n n] W (Wraps a w) := by
  obtain ⟨rs, hr⟩ := hr
  have hcs : ∀ j v, vs[j]? = some v → W.cell? ((⟨w.heap.size, 0, none⟩ : Addr).add j) = some v := by
    intro j v hj
    rw [Addr.add_lit, Nat.zero_add, cell_of_row W w.heap.size j _ 20 (0, 0) hWb]
    simpa using hj
  refine (Errorf_any F f w.heap.size vs ps rs i 119 false a n W hn (by rw [hW.tape]; exact hF) hcs hne hp hr hw hi).mono ?_
  rintro e w' ⟨rfl, h1, h2, h3⟩
  exact ⟨_, rfl, by omega, h1, hW.trans (h3.mono (by omega))⟩

set_option maxHeartbeats 1000000 in
theorem malformed_any (F : Interp) (f : ByteArray) (db b : Nat) (x y z wn : Int) (a0 : Addr) (s0 : ByteArray) (w : World) (hF : F.answers w.tape)
    (hf : FmtStop.printed? f 3 = some [(0, 100, false), (1, 100, false), (2, 100, false)])
    (hg : w.cell? ⟨0, 0, none⟩ = some (.iface 50 (.pointer (some a0)))) (hs : w.cell? a0 = some (.string s0)) (hw : w.cell? ⟨db, 7, none⟩ = some (.int .i64 wn))
    (hb : w.heap[b]? = some (.cells #[.iface 3 (.int .i64 x), .iface 3 (.int .i64 y), .iface 3 (.int .i64 z)] 20 (0, 0))) :
    Calls Ybaf.prog 9 #[.pointer (some ⟨db, 0, none⟩), .string f, .slice (some ⟨b, 0, none⟩) 3 3] w (Wraps a0 w) := by
  have hcs : ∀ j v, ([.iface 3 (.int .i64 x), .iface 3 (.int .i64 y), .iface 3 (.int .i64 z)] : List Value)[j]? = some v → w.cell? ((⟨b, 0, none⟩ : Addr).add j) = some v := by
    intro j v hj
    rw [Addr.add_lit, Nat.zero_add, cell_of_row w b j _ 20 (0, 0) hb]
    simpa using hj
  obtain ⟨txt, hS⟩ : ∃ t, (callFunc 14 #[.string f, .slice (some ⟨b, 0, none⟩) 3 3]).run Ybaf.prog w.drew = .ok (.value (.string t)) w.drew.drew :=
    ⟨_, sprintf_run F f b 3 [.iface 3 (.int .i64 x), .iface 3 (.int .i64 y), .iface 3 (.int .i64 z)] _ [(sh3, digits 8 (x % 2 ^ 64).toNat), (sh3, digits 8 (y % 2 ^ 64).toNat), (sh3, digits 8 (z % 2 ^ 64).toNat)] w.drew hF hcs hf (by simp [FmtStop.readAll, op3])⟩
  clear hf hb hcs
  have h0 : 0 < w.heap.size := World.block_lt_of_cell? _ _ hg
  have ha : a0.block < w.heap.size := World.block_lt_of_cell? _ _ hs
  have hE1 : Below w.heap.size w ((w.alloc (.cells #[.iface 50 (.pointer (some a0)), .iface 3 (.int .i64 wn), .iface 9 (.string txt)] 20)).drew.drew) := (((Below.refl _ w).alloc (Nat.le_refl _) _).drew).drew
  have hE2 : ((w.alloc (.cells #[.iface 50 (.pointer (some a0)), .iface 3 (.int .i64 wn), .iface 9 (.string txt)] 20)).drew.drew).heap.size = w.heap.size + 1 := by simp
  have hE3 : ((w.alloc (.cells #[.iface 50 (.pointer (some a0)), .iface 3 (.int .i64 wn), .iface 9 (.string txt)] 20)).drew.drew).heap[w.heap.size]? = some (.cells (([.iface 50 (.pointer (some a0)), .iface 3 (.int .i64 wn), .iface 9 (.string txt)] : List Value).toArray) 20 (0, 0)) := heap_alloc_new w _
  have hE4 : ∃ rs, (FmtStop.readAll "fmt.errorf" true [.iface 50 (.pointer (some a0)), .iface 3 (.int .i64 wn), .iface 9 (.string txt)] [(0, 119, false), (1, 100, false), (2, 115, false)]).run Ybaf.prog ((w.alloc (.cells #[.iface 50 (.pointer (some a0)), .iface 3 (.int .i64 wn), .iface 9 (.string txt)] 20)).drew.drew) = .ok rs ((w.alloc (.cells #[.iface 50 (.pointer (some a0)), .iface 3 (.int .i64 wn), .iface 9 (.string txt)] 20)).drew.drew) := by
    obtain ⟨sh, h50⟩ := op50 "fmt.errorf" a0 s0 ((w.alloc (.cells #[.iface 50 (.pointer (some a0)), .iface 3 (.int .i64 wn), .iface 9 (.string txt)] 20)).drew.drew) (by rw [hE1.cell (p := a0) ha]; exact hs)
    exact ⟨_, by simp [FmtStop.readAll, op3, op9, h50]; rfl⟩
  go_enter Ybaf.func9, Ybaf.ntmps9
  go_wp2
  go_region_with (go_at_call 10; refine (Errorf_at F _ [.iface 50 (.pointer (some a0)), .iface 3 (.int .i64 wn), .iface 9 (.string txt)] _ 0 a0 3 w _ rfl (by simp) hE1 hE2 hE3 hF (fmtM _) hE4 rfl rfl).mono ?_; rintro e w' ⟨N, rfl, hN, hc, hbel⟩)
  all_goals
    go_wp2
    go_ret
    exact ⟨N, rfl, hN, hc, hbel⟩

end Go.Proofs.YbulkdyqiFmt
