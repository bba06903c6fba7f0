/-
  THE WALK of '(*zzs6261crw).ReadAt'.
-/
import Derived.Test.YbulkdyqiFmtRead
namespace Go.Proofs.YbulkdyqiFmt
open Go.RowKit

theorem cell_at_new (w : World) (v : Value) (t : TypeId) (k : Nat) (hk : k = w.heap.size) : (w.alloc (.cells #[v] t)).cell? ⟨k, 0, none⟩ = some v := by subst hk; simp

set_option maxRecDepth 100000 in
set_option maxHeartbeats 1000000 in
theorem read_fail (rb sb : Nat) (ta so : Option Addr) (tl tc n sc pos : Nat) (fail : Bool) (fe : Addr) (w : World) (hR : Rw w rb (.slice ta tl tc) fail fe (.slice none 0 0) (.slice none 0 0)) (hp : (pos : Int) ≤ 9223372036854775807)
    (hf : fail = true ∨ tl < pos) :
    Calls Ybaf.prog 31 #[.pointer (some ⟨rb, 0, none⟩), .slice so n sc, .int .i64 pos] w fun e w' => ∃ k, e = .returned (.tuple #[.int .i64 k, .iface 50 (.pointer (some fe))]) ∧ Logged rb sb (.slice ta tl tc) fail fe pos n w w' := by
  obtain ⟨c0, c1, c2, c3, c4, f3, f4⟩ := hR.cell
  have hrb := hR.lt
  have ca : ∀ o, (w.alloc o).cell? ⟨rb, 3, none⟩ = some (.slice none 0 0) := fun o => by rw [World.cell?_alloc_past _ _ _ hrb]; exact c3
  have hpos : 0 ≤ (pos : Int) := by omega
  have hfin : ∀ w2 : World, Logged rb sb (.slice ta tl tc) fail fe pos n w w2 → Logged rb sb (.slice ta tl tc) fail fe pos n w w2.drew := fun w2 h => ⟨h.rw, h.kept.trans (Kept.drew _ _)⟩
  cases fail with
  | true =>
    go_enter Ybaf.func31, Ybaf.ntmps31
    go_wp2_with (first
      | (at_builtin; refine wpList_append_nil1 _ rfl (.tmp 13) (.tmp 15) 28 2 Ybaf.info2 Ybaf.underlying28 rfl rfl pos w.heap.size rfl (by simp) ?_; intro g1 cap1 w1 hg1 hc1 hgr1; have k1 := hR.kept ((Kept.alloc (fun _ => False) w _).trans (.of_grown hgr1 (fun k h => by cases h))) (fun h => h); obtain ⟨d0, d1, d2, d3, d4, e3, e4⟩ := k1.cell)
      | (at_builtin; refine wpList_append_nil1 _ rfl (.tmp 23) (.tmp 26) 29 3 Ybaf.info3 Ybaf.underlying29 rfl rfl n w1.heap.size rfl (cell_at_new _ _ _ _ (by simp)) ?_; intro g2 cap2 w2 hg2 hc2 hgr2; obtain ⟨_, r2, hL⟩ := logged_of (c2 := cap2) hR hg1 hc1 hgr1 hg2 hc2 hgr2; obtain ⟨x0, x1, x2, x3, x4, y3, y4⟩ := r2.cell))
    go_region
    all_goals
      go_wp2
      go_ret2
      exact ⟨_, rfl, hfin _ (hL sb)⟩
  | false =>
    have hlt : (tl : Int) < (pos : Int) := by rcases hf with h | h; cases h; omega
    go_enter Ybaf.func31, Ybaf.ntmps31
    go_wp2_with (first
      | (at_builtin; refine wpList_append_nil1 _ rfl (.tmp 13) (.tmp 15) 28 2 Ybaf.info2 Ybaf.underlying28 rfl rfl pos w.heap.size rfl (by simp) ?_; intro g1 cap1 w1 hg1 hc1 hgr1; have k1 := hR.kept ((Kept.alloc (fun _ => False) w _).trans (.of_grown hgr1 (fun k h => by cases h))) (fun h => h); obtain ⟨d0, d1, d2, d3, d4, e3, e4⟩ := k1.cell)
      | (at_builtin; refine wpList_append_nil1 _ rfl (.tmp 23) (.tmp 26) 29 3 Ybaf.info3 Ybaf.underlying29 rfl rfl n w1.heap.size rfl (cell_at_new _ _ _ _ (by simp)) ?_; intro g2 cap2 w2 hg2 hc2 hgr2; obtain ⟨_, r2, hL⟩ := logged_of (c2 := cap2) hR hg1 hc1 hgr1 hg2 hc2 hgr2; obtain ⟨x0, x1, x2, x3, x4, y3, y4⟩ := r2.cell))
    go_region
    all_goals
      go_wp2
      go_ret2
      exact ⟨_, rfl, hfin _ (hL sb)⟩

end Go.Proofs.YbulkdyqiFmt
