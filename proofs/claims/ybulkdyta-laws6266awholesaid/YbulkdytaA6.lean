/-
  STATEMENT LawS6266AWhole: THE SPARE INDEXES.
-/
import Derived.Test.YbulkdytaA5
namespace Go.Proofs.Ybulkdyta
open Go.RowKit

/-- A spare index, its cells. -/
def spareCells (j : Nat) : Array Value := #[.slice none 0 0, .slice none 0 0, .int .i64 (-1 - (j : Int)), .slice none 0 0, .int .i64 0]

/-- The row S of n pointers, the first of them to the blocks Lb, each a spare index. -/
structure Spr (S n : Nat) (Lb : List Nat) (w : World) : Prop where
  row : ∃ cur : Array Value, w.heap[S]? = some (.cells cur 55 (0, 0)) ∧ cur.size = n ∧ ∀ (j p : Nat), Lb[j]? = some p → cur[j]? = some (Value.pointer (some ⟨p, 0, none⟩))
  idx : ∀ (j p : Nat), Lb[j]? = some p → w.cell? ⟨p, 2, none⟩ = some (.int .i64 (-1 - (j : Int))) ∧ p ≠ S

theorem Spr.new (w : World) (M : Array Value) (n : Nat) (h : M.size = n) : Spr w.heap.size n [] (w.alloc (.cells M 55)) :=
  ⟨⟨M, heap_alloc_new _ _, h, fun j p hj => by simp at hj⟩, fun j p hj => by simp at hj⟩

theorem Spr.kept {X : Nat → Prop} {S n : Nat} {Lb : List Nat} {w w' : World} (h : Spr S n Lb w) (k : Kept X w w') (hS : ¬ X S) (hp : ∀ p, p ∈ Lb → ¬ X p) : Spr S n Lb w' := by
  obtain ⟨cur, hc, hn, hj⟩ := h.row
  have hlt : S < w.heap.size := by
    rcases Nat.lt_or_ge S w.heap.size with hlt | hge
    · exact hlt
    · rw [Array.getElem?_eq_none hge] at hc; cases hc
  exact ⟨⟨cur, by rw [k.block S hlt hS]; exact hc, hn, hj⟩, fun j p hjp => ⟨k.cell (h.idx j p hjp).1 (hp p (List.mem_of_getElem? hjp)), (h.idx j p hjp).2⟩⟩

theorem Spr.there {S n : Nat} {Lb : List Nat} {w : World} (h : Spr S n Lb w) (j : Nat) (hj : j < n) : ∃ v, w.cell? ⟨S, j, none⟩ = some v := by
  obtain ⟨cur, hc, hn, _⟩ := h.row
  subst hn
  exact ⟨cur[j], by simp [World.cell?, hc, hj]⟩
theorem Spr.free {S n : Nat} {Lb : List Nat} {w : World} (h : Spr S n Lb w) (j : Nat) : w.frozen? ⟨S, j, none⟩ = false := by
  obtain ⟨cur, hc, _, _⟩ := h.row
  simp [World.frozen?, hc]

theorem Spr.step {S n : Nat} {Lb : List Nat} {w : World} (h : Spr S n Lb w) (hl : Lb.length < n) (hS : S < w.heap.size) :
    Spr S n (Lb ++ [w.heap.size]) ((w.setCell ⟨S, Lb.length, none⟩ (.pointer (some ⟨w.heap.size, 0, none⟩))).alloc (.cells (spareCells Lb.length) 59)) := by
  obtain ⟨cur, hc, hn, hj⟩ := h.row
  have hold : ∀ j p, Lb[j]? = some p → p < w.heap.size := fun j p hjp => World.block_lt_of_cell? w _ (h.idx j p hjp).1
  have hget : ∀ j p, (Lb ++ [w.heap.size])[j]? = some p → (j < Lb.length ∧ Lb[j]? = some p) ∨ (j = Lb.length ∧ p = w.heap.size) := by
    intro j p hjp
    rcases Nat.lt_trichotomy j Lb.length with h1 | h1 | h1
    · rw [List.getElem?_append_left h1] at hjp; exact .inl ⟨h1, hjp⟩
    · subst h1
      rw [List.getElem?_append_right (Nat.le_refl _)] at hjp
      simp at hjp; exact .inr ⟨rfl, hjp.symm⟩
    · rw [List.getElem?_append_right (by omega)] at hjp
      obtain ⟨d, hd⟩ : ∃ d, j - Lb.length = d + 1 := ⟨j - Lb.length - 1, by omega⟩
      rw [hd] at hjp; simp at hjp
  refine ⟨⟨cur.setIfInBounds Lb.length (.pointer (some ⟨w.heap.size, 0, none⟩)), ?_, by simp [hn], fun j p hjp => ?_⟩, fun j p hjp => ?_⟩
  · have := heap_setCell_same w S Lb.length cur 55 (.pointer (some ⟨w.heap.size, 0, none⟩)) hc
    rw [(World.grownBy_alloc (w.setCell ⟨S, Lb.length, none⟩ (.pointer (some ⟨w.heap.size, 0, none⟩))) (.cells (spareCells Lb.length) 59) none).block S (by simpa using hS) (by simp)]
    exact this
  · rcases hget j p hjp with ⟨h1, h2⟩ | ⟨rfl, rfl⟩
    · rw [Array.getElem?_setIfInBounds_ne (by omega)]; exact hj j p h2
    · rw [Array.getElem?_setIfInBounds_self_of_lt (by omega)]
  · rcases hget j p hjp with ⟨h1, h2⟩ | ⟨rfl, rfl⟩
    · obtain ⟨h3, h4⟩ := h.idx j p h2
      refine ⟨?_, h4⟩
      rw [World.cell?_alloc_past _ _ _ (by simpa using hold j p h2), World.cell?_setCell_other (h := fun e => h4 (by have := congrArg Addr.block e; simpa using this.symm))]
      exact h3
    · refine ⟨?_, by omega⟩
      rw [World.cell?_alloc_at _ _ _ _ (by simp)]
      rfl

/-- The row, as one that the call owns. -/
theorem Spr.own {S n : Nat} {Lb : List Nat} {w : World} (h : Spr S n Lb w) (hl : Lb.length = n) (hn : n ≤ 255) : w.ownsRow S 55 1 (.slice (some ⟨S, 0, none⟩) n n) n (ptrs (Lb.map fun b => (⟨b, 0, none⟩ : Addr))) := by
  obtain ⟨cur, hc, hs, hj⟩ := h.row
  refine ⟨by simp [ptrs, hl], .inr ⟨S, n, cur, rfl, Nat.le_refl _, hc, Nat.le_refl _, by unfold maxLen; omega, by omega, ?_⟩⟩
  apply List.ext_getElem?
  intro j
  by_cases hjn : j < n
  · have h1 := hj j (Lb[j]) (by simp)
    simp only [Nat.mul_one, List.getElem?_take, hjn, if_true, Array.getElem?_toList, h1, ptrs, List.map_map, List.getElem?_map]
    simp [show j < Lb.length by omega]
  · simp [List.getElem?_take, hjn, ptrs, show Lb.length ≤ j by omega]

end Go.Proofs.Ybulkdyta
