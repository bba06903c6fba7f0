/-
  THE WALK of '(*bitWriter).pad'.
-/
import Derived.Test.YbulkdyqiAids
namespace Go.Proofs.Ybulkdyqi
open Go.RowKit

/-- The writer's own block. -/
def Wr (w : World) (pb : Nat) (v : Value) (acc n : Int) : Prop := w.heap[pb]? = some (.cells #[v, .int .u64 acc, .int .u64 n] 28 (0, 0))

theorem Wr.cell {w : World} {pb : Nat} {v : Value} {acc n : Int} (h : Wr w pb v acc n) :
    w.cell? ⟨pb, 0, none⟩ = some v ∧ w.cell? ⟨pb, 1, none⟩ = some (.int .u64 acc) ∧ w.cell? ⟨pb, 2, none⟩ = some (.int .u64 n) ∧
    w.frozen? ⟨pb, 0, none⟩ = false ∧ w.frozen? ⟨pb, 1, none⟩ = false ∧ w.frozen? ⟨pb, 2, none⟩ = false := by
  refine ⟨?_, ?_, ?_, frozen_of_row w pb 0 _ 28 h, frozen_of_row w pb 1 _ 28 h, frozen_of_row w pb 2 _ 28 h⟩
  all_goals (rw [cell_of_row w pb _ _ 28 (0, 0) h]; rfl)

theorem pad_zero (pb : Nat) (ao : Option Addr) (len cap : Nat) (acc : Int) (w : World) (hw : Wr w pb (.slice ao len cap) acc 0) :
    Calls Yba.prog 6 #[.pointer (some ⟨pb, 0, none⟩)] w fun e w' => e = .returned (.slice ao len cap) ∧ w' = w := by
  obtain ⟨c0, c1, c2, f0, f1, f2⟩ := hw.cell
  go_enter Yba.func6, Yba.ntmps6
  go_wp2
  go_ret
  exact ⟨rfl, rfl⟩

/-- What a row of the writer's own and its block make of each other: they are two blocks. -/
theorem Wr.apart {w : World} {pb base : Nat} {v u : Value} {acc n : Int} {k : Nat} {xs : List Value} (h : Wr w pb v acc n) (ho : w.ownsRow base 5 1 u k xs) : u.ownBlock ≠ some pb := by
  intro hb
  rcases ho.2 with ⟨rfl, _⟩ | ⟨g, cap, cur, rfl, _, hg, _⟩
  · cases hb
  · obtain rfl : g = pb := by simpa [Value.ownBlock] using hb
    unfold Wr at h
    rw [h] at hg
    simp at hg

/-- WHAT ONE append OF A BYTE TO THE WRITER's OUTPUT LEAVES, AHEAD OF THE STORE INTO THE FIELD. -/
def Grew (base pb : Nat) (ao : Option Addr) (len cap : Nat) (acc n : Int) (zs : List Int) (g cap' : Nat) (w w1 : World) : Prop :=
  Wr w1 pb (.slice ao len cap) acc n ∧ w1.ownsRow base 5 1 (.slice (some ⟨g, 0, none⟩) (len + 1) cap') (len + 1) (u8s zs) ∧ Below base w w1 ∧
    ∀ k, k < w.heap.size → (Value.slice ao len cap).ownBlock ≠ some k → w1.heap[k]? = w.heap[k]?

/-- The same behind the store. -/
def Grown1 (base pb : Nat) (ao : Option Addr) (len cap : Nat) (acc n : Int) (zs : List Int) (g cap' : Nat) (w w1 : World) : Prop :=
  Wr w1 pb (.slice (some ⟨g, 0, none⟩) (len + 1) cap') acc n ∧ w1.ownsRow base 5 1 (.slice (some ⟨g, 0, none⟩) (len + 1) cap') (len + 1) (u8s zs) ∧ Below base w w1 ∧
    ∀ k, k < w.heap.size → k ≠ pb → (Value.slice ao len cap).ownBlock ≠ some k → w1.heap[k]? = w.heap[k]?

theorem Grew.stored {base pb : Nat} {ao : Option Addr} {len cap : Nat} {acc n : Int} {zs : List Int} {g cap' : Nat} {w w1 : World} (h : Grew base pb ao len cap acc n zs g cap' w w1) (hbp : base ≤ pb) :
    Grown1 base pb ao len cap acc n zs g cap' w (w1.setCell ⟨pb, 0, none⟩ (.slice (some ⟨g, 0, none⟩) (len + 1) cap')) := by
  obtain ⟨h1, h2, h3, h4⟩ := h
  have hne := h1.apart h2
  refine ⟨?_, ?_, h3.setCell hbp _, ?_⟩
  · unfold Wr at h1 ⊢
    rw [heap_setCell_same w1 pb 0 _ 28 _ h1]
    rfl
  · refine ownsRow_of_heap h2 fun k hk => ?_
    exact Below.heap_setCell _ _ _ _ (fun e => hne (by rw [hk, e]))
  · intro k hk hkp hko
    rw [Below.heap_setCell _ _ _ _ hkp]
    exact h4 k hk hko

theorem grew_of {base pb : Nat} {ao : Option Addr} {cap : Nat} {acc n : Int} {zs : List Int} {b : Int} {w w1 : World} {v1 : Value} (hbp : base ≤ pb) (hw : Wr w pb (.slice ao zs.length cap) acc n) (hown : w.ownsRow base 5 1 (.slice ao zs.length cap) zs.length (u8s zs))
    (hown1 : w1.ownsRow base 5 1 v1 (zs.length + 1) (u8s zs ++ [.int .u8 b])) (hgrow1 : ((w.alloc (.cells #[.int .u8 b] 5)).drew).grownBy w1 (Value.slice ao zs.length cap).ownBlock) :
    ∃ g cap', v1 = .slice (some ⟨g, 0, none⟩) (zs.length + 1) cap' ∧ Grew base pb ao zs.length cap acc n (zs ++ [b]) g cap' w w1 := by
  have hpb : pb < w.heap.size := by
    unfold Wr at hw; exact (Array.getElem?_eq_some_iff.1 hw).1
  have hb : ∀ k, k < w.heap.size → (Value.slice ao zs.length cap).ownBlock ≠ some k → w1.heap[k]? = w.heap[k]? := by
    intro k hk hko
    rw [hgrow1.block k (by simp; omega) (fun e => hko e.symm)]
    exact Below.heap_alloc _ _ _ hk
  have hbel : Below base w w1 := by
    refine (((Below.refl base w).alloc (by omega) _).drew).grown hgrow1 (by simp; omega) (fun k hk => (hown.lt k hk).1)
  rcases hown1.2 with ⟨_, h⟩ | ⟨g, cap', _, h, _⟩
  · omega
  · refine ⟨g, cap', h, ?_, ?_, hbel, hb⟩
    · unfold Wr
      rw [hb pb hpb (fun e => Wr.apart hw hown e)]
      exact hw
    · rw [← h, u8s_append]; exact hown1

/-- append of one byte to the writer's output, as one step of a region that draws. -/
theorem step_append_wr {ops : Array Oper} {o : Oper} {a : Act} {W : World} {K : Act → World → Prop} {Q : Exit → Act → World → Prop} {E : Prop}
    (hgd : o.guard = none) (s x : Operand) (ho : o.op = .call { callee := .builtin .append, args := #[s, x], argTypes := #[22, 22] })
    (w : World) (base pb : Nat) (ao : Option Addr) (cap : Nat) (acc n : Int) (zs : List Int) (b : Int) (hW : W = (w.alloc (.cells #[.int .u8 b] 5)).drew)
    (hs : a.eval s = .slice ao zs.length cap) (hx : a.eval x = .slice (some ⟨w.heap.size, 0, none⟩) 1 1) (hl : zs.length ≤ 2000000) (hbp : base ≤ pb)
    (hw : Wr w pb (.slice ao zs.length cap) acc n) (hown : w.ownsRow base 5 1 (.slice ao zs.length cap) zs.length (u8s zs))
    (h : ∀ g cap' w1, Hid (Grew base pb ao zs.length cap acc n (zs ++ [b]) g cap' w w1) → w1.cell? ⟨pb, 0, none⟩ = some (.slice ao zs.length cap) → w1.frozen? ⟨pb, 0, none⟩ = false → K (a.put o.dst (.slice (some ⟨g, 0, none⟩) (zs.length + 1) cap')) w1) :
    if Region.wanted o (yielded ops a.tmps) = true then Oper.wp Yba.prog o a W K Q else E := by
  obtain ⟨i0, hi, hz0, hz1, hz2⟩ := info_parts Yba.info5
  have hpb : pb < w.heap.size := by
    unfold Wr at hw; exact (Array.getElem?_eq_some_iff.1 hw).1
  subst hW
  refine step_append_own hgd s x 22 ho base 5 i0 (.int .u8 0) 1 1 Yba.underlying22 hi hz0 hz1 hz2 rfl (by decide) _ zs.length (u8s zs) hs ((hown.alloc _).drew) _ 1 1 [.int .u8 b] hx rfl (cell_one_new _ _ _) (by simp [Value.oneCell']) (by unfold maxLen; omega) (by omega) (by simp; omega) ?_
  intro v1 w1 hown1 hgrow1 _
  obtain ⟨g, cap', rfl, hG⟩ := grew_of hbp hw hown hown1 hgrow1
  obtain ⟨c0, _, _, f0, _, _⟩ := hG.1.cell
  exact h g cap' w1 hG c0 f0

set_option maxHeartbeats 400000 in
theorem pad_pos (base pb : Nat) (ao : Option Addr) (cap : Nat) (acc n : Int) (zs : List Int) (w : World) (hn : 0 < n) (hl : zs.length ≤ 2000000) (hbp : base ≤ pb)
    (hw : Wr w pb (.slice ao zs.length cap) acc n) (hown : w.ownsRow base 5 1 (.slice ao zs.length cap) zs.length (u8s zs)) :
    Calls Yba.prog 6 #[.pointer (some ⟨pb, 0, none⟩)] w fun e w' => ∃ g cap', e = .returned (.slice (some ⟨g, 0, none⟩) (zs.length + 1) cap') ∧ Grown1 base pb ao zs.length cap acc n (zs ++ [IntKind.u8.wrap acc]) g cap' w w' := by
  obtain ⟨c0, c1, c2, f0, f1, f2⟩ := hw.cell
  have hpb : pb < w.heap.size := by
    unfold Wr at hw; exact (Array.getElem?_eq_some_iff.1 hw).1
  have ca0 : ∀ o, (w.alloc o).cell? ⟨pb, 0, none⟩ = some (.slice ao zs.length cap) := fun o => by rw [World.cell?_alloc_past _ _ _ hpb]; exact c0
  go_enter Yba.func6, Yba.ntmps6
  go_wp2
  go_region_law (refine step_append_wr rfl (.tmp 12) (.tmp 18) rfl w base pb ao cap acc n zs (IntKind.u8.wrap acc) rfl (by simp [Act.eval]) (by simp [Act.eval]) hl hbp hw hown ?_; intro g cap' w1 hG c0' f0')
  all_goals
    go_wp2
    go_ret
    exact ⟨_, _, rfl, hG.out.stored hbp⟩

theorem pad_zero_abs (base pb : Nat) (ao : Option Addr) (cap : Nat) (acc : Int) (zs : List Int) (w : World) (hw : Wr w pb (.slice ao zs.length cap) acc 0) (hown : w.ownsRow base 5 1 (.slice ao zs.length cap) zs.length (u8s zs)) :
    Calls Yba.prog 6 #[.pointer (some ⟨pb, 0, none⟩)] w fun e w' => e = .returned (.slice ao zs.length cap) ∧ Wr w' pb (.slice ao zs.length cap) acc 0 ∧ w'.ownsRow base 5 1 (.slice ao zs.length cap) zs.length (u8s zs) ∧ Below base w w' := by
  refine (pad_zero pb ao zs.length cap acc w hw).mono ?_
  rintro e w' ⟨rfl, rfl⟩
  exact ⟨rfl, hw, hown, Below.refl _ _⟩

end Go.Proofs.Ybulkdyqi
