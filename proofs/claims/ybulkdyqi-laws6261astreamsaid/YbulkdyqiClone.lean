/-
  THE WALK of 'zzs6261aclone'.
-/
import Derived.Test.YbulkdyqiAids
namespace Go.Proofs.Ybulkdyqi
open Go.RowKit

theorem clone_nil (w : World) :
    Calls Yba.prog 5 #[.slice none 0 0] w fun e w' => e = .returned (.slice none 0 0) ∧ w' = w := by
  have hq := fun w => Lib.run_eql_slice_nil (P := Yba.prog) w 22 5 none 0 0 0 0 Yba.underlying22
  go_enter Yba.func5, Yba.ntmps5
  go_wp2
  go_ret
  exact ⟨rfl, rfl⟩

theorem splice_full {α : Type} (L cs : List α) (h : cs.length = L.length) : splice L 0 cs = cs := by
  simp [splice, h]

theorem owns_made_cur {w : World} {base g n : Nat} {xs : List Value} (h : w.ownsRow base 5 1 (.slice (some ⟨g, 0, none⟩) n n) n xs) : w.heap[g]? = some (.cells xs.toArray 5 (0, 0)) := by
  rcases h.2 with ⟨h', _⟩ | ⟨g', cap', cur, h', _, hg, _, _, hcs, htake⟩
  · simp at h'
  · simp only [Value.slice.injEq, Option.some.injEq, Addr.mk.injEq, and_true, true_and] at h'
    obtain ⟨rfl, rfl⟩ := h'
    rw [List.take_of_length_le (by simp; omega)] at htake
    rw [hg, ← htake]

theorem owns_of_cur {w : World} {base g n : Nat} {xs : List Value} (hb : base ≤ g) (hn : xs.length = n) (hm : n ≤ maxLen) (h : w.heap[g]? = some (.cells xs.toArray 5 (0, 0))) : w.ownsRow base 5 1 (.slice (some ⟨g, 0, none⟩) n n) n xs :=
  ⟨by omega, .inr ⟨g, n, xs.toArray, rfl, hb, h, Nat.le_refl _, hm, by simp [hn], by simp [← hn]⟩⟩

theorem clone_some (x : Addr) (cap : Nat) (zs : List Int) (w : World) (hl : zs.length ≤ 1048576)
    (hc : ∀ j, j < zs.length → w.cell? (x.add j) = some (.int .u8 (zs.getD j 0))) :
    Calls Yba.prog 5 #[.slice (some x) zs.length cap] w fun e w' => ∃ g, e = .returned (.slice (some ⟨g, 0, none⟩) zs.length zs.length) ∧ w'.ownsRow w.heap.size 5 1 (.slice (some ⟨g, 0, none⟩) zs.length zs.length) zs.length (u8s zs) ∧ Below w.heap.size w w' := by
  obtain ⟨i0, hi, hz0, hz1, hz2⟩ := info_parts Yba.info5
  have hq := fun w => Lib.run_eql_slice_nil (P := Yba.prog) w 22 5 (some x) zs.length cap 0 0 Yba.underlying22
  generalize hn : zs.length = n at *
  have hm : n ≤ maxLen := by unfold maxLen; omega
  go_enter Yba.func5, Yba.ntmps5
  go_wp2_with (first
    | (at_make; refine wpList_make_full _ rfl (.tmp 7) (.tmp 7) 22 rfl w.heap.size 5 i0 (.int .u8 0) 1 Yba.underlying22 hi hz0 hz1 .i64 .i64 _ _ n rfl rfl rfl rfl (by rw [hz2]; omega) hm (Nat.le_refl _) ?_; intro w1 hown1 hgrow1)
    | (refine wpList_copy_splice rfl (.tmp 9) (.tmp 10) 22 22 rfl 5 Yba.underlying22 Yba.size5 _ _ _ _ _ _ rfl rfl w.heap.size 0 _ 5 (owns_made_cur hown1) (u8s zs) ?c1 ?c2 ?c3 (u8s_one _) w.heap.size w ?c4 (Nat.le_refl _) ?c5))
  case c1 => rw [u8s_length, hn]; exact (Nat.min_self n).symm
  case c2 =>
    intro _ j u hj
    have hlt : j < n := by
      have := (List.getElem?_eq_some_iff.1 hj).1
      rw [u8s_length, hn] at this; exact this
    rw [u8s_get _ _ (by omega)] at hj
    rw [hgrow1.cell (hc j hlt) (by simp)]
    exact hj
  case c3 => rw [u8s_length, hn]; simp [size_madeCells]
  case c4 => exact (Below.refl _ _).grown hgrow1 (Nat.le_refl _) (fun k h => by cases h)
  case c5 =>
    intro w2 hg2 hb2
    have hg3 : Hid (w2.heap[w.heap.size]? = some (.cells (u8s zs).toArray 5 (0, 0))) := by
      have h := hg2.out
      rw [splice_full _ _ (by rw [u8s_length, hn]; simp [size_madeCells])] at h
      exact h
    clear hg2
    go_wp2
    go_ret
    exact ⟨_, rfl, owns_of_cur (Nat.le_refl _) (by rw [u8s_length, hn]) hm hg3.out, hb2⟩

end Go.Proofs.Ybulkdyqi
