/-
  THE WALK of '(valueIndex).Less' over an index of two entries: the other three picks.
-/
import Derived.Test.YbulkdytaLess
namespace Go.Proofs.Ybulkdyta
open Go.RowKit

set_option maxHeartbeats 1000000 in
set_option maxRecDepth 100000 in
theorem less00 (kb pb : Nat) (k₁ i₁ : Int) (t₁ : ByteArray) (k₂ i₂ : Int) (t₂ : ByteArray) (p₁ p₂ : Int) (w : World) (h : Two w kb pb k₁ i₁ t₁ k₂ i₂ t₂ p₁ p₂) :
    Calls Yba.prog 11 #[.agg #[.slice (some ⟨kb, 0, none⟩) 2 2, .slice (some ⟨pb, 0, none⟩) 2 2, .int .i64 0, .slice none 0 0, .int .i64 0], .int .i64 0, .int .i64 0] w fun e w' =>
      e = .returned (.bool (keyLess k₁ i₁ t₁ k₁ i₁ t₁ p₁ p₁)) ∧ Below w.heap.size w w' := by
  rw [← keyOrd_less]
  generalize ho : keyOrd k₁ i₁ t₁ k₁ i₁ t₁ = o
  go_enter Yba.func11, Yba.ntmps11
  go_wp2_with fail
  have b1 : Below w.heap.size w (w.alloc (Obj.cells #[Value.slice (some { block := kb, off := 0 }) 2 2, Value.slice (some { block := pb, off := 0 }) 2 2, Value.int IntKind.i64 0, Value.slice none 0 0, Value.int IntKind.i64 0] 59)) := (Below.refl _ w).alloc (Nat.le_refl _) _
  have hx : Held (w.alloc (Obj.cells #[Value.slice (some { block := kb, off := 0 }) 2 2, Value.slice (some { block := pb, off := 0 }) 2 2, Value.int IntKind.i64 0, Value.slice none 0 0, Value.int IntKind.i64 0] 59)) w.heap.size kb pb := ⟨by rw [World.cell?_alloc_at _ _ _ _ rfl]; rfl, by rw [World.cell?_alloc_at _ _ _ _ rfl]; rfl⟩
  have h1 := h.later (Nat.le_refl _) b1
  have hs : w.heap.size < (w.alloc (Obj.cells #[Value.slice (some { block := kb, off := 0 }) 2 2, Value.slice (some { block := pb, off := 0 }) 2 2, Value.int IntKind.i64 0, Value.slice none 0 0, Value.int IntKind.i64 0] 59)).heap.size := by simp
  generalize w.alloc (Obj.cells #[Value.slice (some { block := kb, off := 0 }) 2 2, Value.slice (some { block := pb, off := 0 }) 2 2, Value.int IntKind.i64 0, Value.slice none 0 0, Value.int IntKind.i64 0] 59) = w1 at b1 hx h1 hs ⊢
  obtain ⟨x0, x1⟩ := hx
  obtain ⟨c0, c1, c2, c3, c4, c5, d0, d1⟩ := h1
  have K : ∀ w2, Below w1.drew.heap.size w1.drew w2 → w2.cell? ⟨w.heap.size, 1, none⟩ = some (.slice (some ⟨pb, 0, none⟩) 2 2) ∧ w2.cell? ⟨pb, 0, none⟩ = some (.int .i64 p₁) ∧ w2.cell? ⟨pb, 1, none⟩ = some (.int .i64 p₂) ∧ Below w.heap.size w w2 := by
    intro w2 bel
    have lp : pb < w1.heap.size := World.block_lt_of_cell? w1 _ d0
    exact ⟨by rw [bel.cell (by exact hs)]; exact x1, by rw [bel.cell (by exact lp)]; exact d0, by rw [bel.cell (by exact lp)]; exact d1, (b1.drew).trans (bel.mono (Nat.le_of_lt hs))⟩
  by_cases hz : o = 0
  · go_region_with (go_at_call 14; refine (key_compare _ _ _ _ _ _ _).mono ?_; rw [ho]; rintro _ w2 ⟨rfl, bel⟩)
    all_goals
      obtain ⟨y1, e0, e1, b2⟩ := K w2 bel
      clear K bel
      go_wp2
      go_region
      go_wp2
      go_ret
      exact ⟨rfl, b2.drew⟩
  · go_region_with (go_at_call 14; refine (key_compare _ _ _ _ _ _ _).mono ?_; rw [ho]; rintro _ w2 ⟨rfl, bel⟩)
    all_goals
      obtain ⟨y1, e0, e1, b2⟩ := K w2 bel
      clear K bel
      go_wp2
      go_ret
      exact ⟨rfl, b2⟩

set_option maxHeartbeats 1000000 in
set_option maxRecDepth 100000 in
theorem less10 (kb pb : Nat) (k₁ i₁ : Int) (t₁ : ByteArray) (k₂ i₂ : Int) (t₂ : ByteArray) (p₁ p₂ : Int) (w : World) (h : Two w kb pb k₁ i₁ t₁ k₂ i₂ t₂ p₁ p₂) :
    Calls Yba.prog 11 #[.agg #[.slice (some ⟨kb, 0, none⟩) 2 2, .slice (some ⟨pb, 0, none⟩) 2 2, .int .i64 0, .slice none 0 0, .int .i64 0], .int .i64 1, .int .i64 0] w fun e w' =>
      e = .returned (.bool (keyLess k₂ i₂ t₂ k₁ i₁ t₁ p₂ p₁)) ∧ Below w.heap.size w w' := by
  rw [← keyOrd_less]
  generalize ho : keyOrd k₂ i₂ t₂ k₁ i₁ t₁ = o
  go_enter Yba.func11, Yba.ntmps11
  go_wp2_with fail
  have b1 : Below w.heap.size w (w.alloc (Obj.cells #[Value.slice (some { block := kb, off := 0 }) 2 2, Value.slice (some { block := pb, off := 0 }) 2 2, Value.int IntKind.i64 0, Value.slice none 0 0, Value.int IntKind.i64 0] 59)) := (Below.refl _ w).alloc (Nat.le_refl _) _
  have hx : Held (w.alloc (Obj.cells #[Value.slice (some { block := kb, off := 0 }) 2 2, Value.slice (some { block := pb, off := 0 }) 2 2, Value.int IntKind.i64 0, Value.slice none 0 0, Value.int IntKind.i64 0] 59)) w.heap.size kb pb := ⟨by rw [World.cell?_alloc_at _ _ _ _ rfl]; rfl, by rw [World.cell?_alloc_at _ _ _ _ rfl]; rfl⟩
  have h1 := h.later (Nat.le_refl _) b1
  have hs : w.heap.size < (w.alloc (Obj.cells #[Value.slice (some { block := kb, off := 0 }) 2 2, Value.slice (some { block := pb, off := 0 }) 2 2, Value.int IntKind.i64 0, Value.slice none 0 0, Value.int IntKind.i64 0] 59)).heap.size := by simp
  generalize w.alloc (Obj.cells #[Value.slice (some { block := kb, off := 0 }) 2 2, Value.slice (some { block := pb, off := 0 }) 2 2, Value.int IntKind.i64 0, Value.slice none 0 0, Value.int IntKind.i64 0] 59) = w1 at b1 hx h1 hs ⊢
  obtain ⟨x0, x1⟩ := hx
  obtain ⟨c0, c1, c2, c3, c4, c5, d0, d1⟩ := h1
  have K : ∀ w2, Below w1.drew.heap.size w1.drew w2 → w2.cell? ⟨w.heap.size, 1, none⟩ = some (.slice (some ⟨pb, 0, none⟩) 2 2) ∧ w2.cell? ⟨pb, 0, none⟩ = some (.int .i64 p₁) ∧ w2.cell? ⟨pb, 1, none⟩ = some (.int .i64 p₂) ∧ Below w.heap.size w w2 := by
    intro w2 bel
    have lp : pb < w1.heap.size := World.block_lt_of_cell? w1 _ d0
    exact ⟨by rw [bel.cell (by exact hs)]; exact x1, by rw [bel.cell (by exact lp)]; exact d0, by rw [bel.cell (by exact lp)]; exact d1, (b1.drew).trans (bel.mono (Nat.le_of_lt hs))⟩
  by_cases hz : o = 0
  · go_region_with (go_at_call 14; refine (key_compare _ _ _ _ _ _ _).mono ?_; rw [ho]; rintro _ w2 ⟨rfl, bel⟩)
    all_goals
      obtain ⟨y1, e0, e1, b2⟩ := K w2 bel
      clear K bel
      go_wp2
      go_region
      go_wp2
      go_ret
      exact ⟨rfl, b2.drew⟩
  · go_region_with (go_at_call 14; refine (key_compare _ _ _ _ _ _ _).mono ?_; rw [ho]; rintro _ w2 ⟨rfl, bel⟩)
    all_goals
      obtain ⟨y1, e0, e1, b2⟩ := K w2 bel
      clear K bel
      go_wp2
      go_ret
      exact ⟨rfl, b2⟩

set_option maxHeartbeats 1000000 in
set_option maxRecDepth 100000 in
theorem less11 (kb pb : Nat) (k₁ i₁ : Int) (t₁ : ByteArray) (k₂ i₂ : Int) (t₂ : ByteArray) (p₁ p₂ : Int) (w : World) (h : Two w kb pb k₁ i₁ t₁ k₂ i₂ t₂ p₁ p₂) :
    Calls Yba.prog 11 #[.agg #[.slice (some ⟨kb, 0, none⟩) 2 2, .slice (some ⟨pb, 0, none⟩) 2 2, .int .i64 0, .slice none 0 0, .int .i64 0], .int .i64 1, .int .i64 1] w fun e w' =>
      e = .returned (.bool (keyLess k₂ i₂ t₂ k₂ i₂ t₂ p₂ p₂)) ∧ Below w.heap.size w w' := by
  rw [← keyOrd_less]
  generalize ho : keyOrd k₂ i₂ t₂ k₂ i₂ t₂ = o
  go_enter Yba.func11, Yba.ntmps11
  go_wp2_with fail
  have b1 : Below w.heap.size w (w.alloc (Obj.cells #[Value.slice (some { block := kb, off := 0 }) 2 2, Value.slice (some { block := pb, off := 0 }) 2 2, Value.int IntKind.i64 0, Value.slice none 0 0, Value.int IntKind.i64 0] 59)) := (Below.refl _ w).alloc (Nat.le_refl _) _
  have hx : Held (w.alloc (Obj.cells #[Value.slice (some { block := kb, off := 0 }) 2 2, Value.slice (some { block := pb, off := 0 }) 2 2, Value.int IntKind.i64 0, Value.slice none 0 0, Value.int IntKind.i64 0] 59)) w.heap.size kb pb := ⟨by rw [World.cell?_alloc_at _ _ _ _ rfl]; rfl, by rw [World.cell?_alloc_at _ _ _ _ rfl]; rfl⟩
  have h1 := h.later (Nat.le_refl _) b1
  have hs : w.heap.size < (w.alloc (Obj.cells #[Value.slice (some { block := kb, off := 0 }) 2 2, Value.slice (some { block := pb, off := 0 }) 2 2, Value.int IntKind.i64 0, Value.slice none 0 0, Value.int IntKind.i64 0] 59)).heap.size := by simp
  generalize w.alloc (Obj.cells #[Value.slice (some { block := kb, off := 0 }) 2 2, Value.slice (some { block := pb, off := 0 }) 2 2, Value.int IntKind.i64 0, Value.slice none 0 0, Value.int IntKind.i64 0] 59) = w1 at b1 hx h1 hs ⊢
  obtain ⟨x0, x1⟩ := hx
  obtain ⟨c0, c1, c2, c3, c4, c5, d0, d1⟩ := h1
  have K : ∀ w2, Below w1.drew.heap.size w1.drew w2 → w2.cell? ⟨w.heap.size, 1, none⟩ = some (.slice (some ⟨pb, 0, none⟩) 2 2) ∧ w2.cell? ⟨pb, 0, none⟩ = some (.int .i64 p₁) ∧ w2.cell? ⟨pb, 1, none⟩ = some (.int .i64 p₂) ∧ Below w.heap.size w w2 := by
    intro w2 bel
    have lp : pb < w1.heap.size := World.block_lt_of_cell? w1 _ d0
    exact ⟨by rw [bel.cell (by exact hs)]; exact x1, by rw [bel.cell (by exact lp)]; exact d0, by rw [bel.cell (by exact lp)]; exact d1, (b1.drew).trans (bel.mono (Nat.le_of_lt hs))⟩
  by_cases hz : o = 0
  · go_region_with (go_at_call 14; refine (key_compare _ _ _ _ _ _ _).mono ?_; rw [ho]; rintro _ w2 ⟨rfl, bel⟩)
    all_goals
      obtain ⟨y1, e0, e1, b2⟩ := K w2 bel
      clear K bel
      go_wp2
      go_region
      go_wp2
      go_ret
      exact ⟨rfl, b2.drew⟩
  · go_region_with (go_at_call 14; refine (key_compare _ _ _ _ _ _ _).mono ?_; rw [ho]; rintro _ w2 ⟨rfl, bel⟩)
    all_goals
      obtain ⟨y1, e0, e1, b2⟩ := K w2 bel
      clear K bel
      go_wp2
      go_ret
      exact ⟨rfl, b2⟩

end Go.Proofs.Ybulkdyta
