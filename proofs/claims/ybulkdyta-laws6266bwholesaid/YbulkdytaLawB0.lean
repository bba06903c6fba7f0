/-
  THE WORLD that 'LawS6266BWhole' lays ahead of its calls.
-/
import Derived.Test.YbulkdytaLess
namespace Go.Proofs.Ybulkdyta
open Go.RowKit

/-- The nine blocks that the law lays. -/
def lay9 (w : World) (k₁ i₁ : Int) (t₁ : ByteArray) (k₂ i₂ : Int) (t₂ : ByteArray) (p₁ p₂ : Int) : World :=
  ((((((((w.alloc (.cells #[.int .u8 k₁, .int .i64 i₁, .string t₁] 114)).alloc
    (.cells #[.int .u8 k₂, .int .i64 i₂, .string t₂] 114)).alloc
    (.cells #[.int .u8 k₁, .int .i64 i₁, .string t₁] 117)).alloc
    (.cells #[.int .u8 k₂, .int .i64 i₂, .string t₂] 117)).alloc
    (.cells #[.int .u8 k₁, .int .i64 i₁, .string t₁, .int .u8 k₂, .int .i64 i₂, .string t₂] 117)).alloc
    (.cells #[.int .i64 p₁, .int .i64 p₂] 3)).alloc
    (.cells #[.slice (some ⟨w.heap.size + 1 + 1 + 1 + 1, 0, none⟩) 2 2, .slice (some ⟨w.heap.size + 1 + 1 + 1 + 1 + 1, 0, none⟩) 2 2, .int .i64 0, .slice none 0 0, .int .i64 0] 59)).alloc
    (.cells #[.int .u8 k₁, .int .i64 i₁, .string t₁, .int .u8 k₂, .int .i64 i₂, .string t₂] 114)).alloc
    (.cells #[.int .i64 p₁, .int .i64 p₂] 3)

/-- The three cells of a key. -/
structure KeyAt (w : World) (b : Nat) (k i : Int) (t : ByteArray) : Prop where
  c0 : w.cell? ⟨b, 0, none⟩ = some (.int .u8 k)
  c1 : w.cell? ⟨b, 1, none⟩ = some (.int .i64 i)
  c2 : w.cell? ⟨b, 2, none⟩ = some (.string t)

/-- What the law reads of them. -/
structure Nine (w : World) (n : Nat) (k₁ i₁ : Int) (t₁ : ByteArray) (k₂ i₂ : Int) (t₂ : ByteArray) (p₁ p₂ : Int) : Prop where
  ka : KeyAt w (n + 1 + 1) k₁ i₁ t₁
  kb : KeyAt w (n + 1 + 1 + 1) k₂ i₂ t₂
  two : Two w (n + 1 + 1 + 1 + 1) (n + 1 + 1 + 1 + 1 + 1) k₁ i₁ t₁ k₂ i₂ t₂ p₁ p₂
  x0 : w.cell? ⟨n + 1 + 1 + 1 + 1 + 1 + 1, 0, none⟩ = some (.slice (some ⟨n + 1 + 1 + 1 + 1, 0, none⟩) 2 2)
  x1 : w.cell? ⟨n + 1 + 1 + 1 + 1 + 1 + 1, 1, none⟩ = some (.slice (some ⟨n + 1 + 1 + 1 + 1 + 1, 0, none⟩) 2 2)
  x2 : w.cell? ⟨n + 1 + 1 + 1 + 1 + 1 + 1, 2, none⟩ = some (.int .i64 0)
  x3 : w.cell? ⟨n + 1 + 1 + 1 + 1 + 1 + 1, 3, none⟩ = some (.slice none 0 0)
  x4 : w.cell? ⟨n + 1 + 1 + 1 + 1 + 1 + 1, 4, none⟩ = some (.int .i64 0)
  own : Two w (n + 1 + 1 + 1 + 1 + 1 + 1 + 1) (n + 1 + 1 + 1 + 1 + 1 + 1 + 1 + 1) k₁ i₁ t₁ k₂ i₂ t₂ p₁ p₂
  size : n + 9 ≤ w.heap.size

theorem KeyAt.later {w w' : World} {b : Nat} {k i : Int} {t : ByteArray} {B : Nat} (h : KeyAt w b k i t) (hB : w.heap.size ≤ B) (hb : Below B w w') : KeyAt w' b k i t := by
  have keep : ∀ {a : Addr} {v : Value}, w.cell? a = some v → w'.cell? a = some v := fun {a v} hc => by
    have := World.block_lt_of_cell? w a hc
    rw [hb.cell (by omega)]; exact hc
  exact ⟨keep h.c0, keep h.c1, keep h.c2⟩

theorem Nine.later {w w' : World} {n : Nat} {k₁ i₁ : Int} {t₁ : ByteArray} {k₂ i₂ : Int} {t₂ : ByteArray} {p₁ p₂ : Int} (h : Nine w n k₁ i₁ t₁ k₂ i₂ t₂ p₁ p₂) (hb : Below w.heap.size w w') : Nine w' n k₁ i₁ t₁ k₂ i₂ t₂ p₁ p₂ := by
  have keep : ∀ {a : Addr} {v : Value}, w.cell? a = some v → w'.cell? a = some v := fun {a v} hc => by
    have := World.block_lt_of_cell? w a hc
    rw [hb.cell (by omega)]; exact hc
  exact ⟨h.ka.later (Nat.le_refl _) hb, h.kb.later (Nat.le_refl _) hb, h.two.later (Nat.le_refl _) hb, keep h.x0, keep h.x1, keep h.x2, keep h.x3, keep h.x4, h.own.later (Nat.le_refl _) hb, Nat.le_trans h.size hb.size⟩

theorem below_al {a w : World} (h : Below a.heap.size a w) (o : Obj) : Below a.heap.size a (w.alloc o) := h.alloc h.size o

theorem lay9_below (w : World) (k₁ i₁ : Int) (t₁ : ByteArray) (k₂ i₂ : Int) (t₂ : ByteArray) (p₁ p₂ : Int) : Below w.heap.size w (lay9 w k₁ i₁ t₁ k₂ i₂ t₂ p₁ p₂) :=
  below_al (below_al (below_al (below_al (below_al (below_al (below_al (below_al (below_al (Below.refl _ w) _) _) _) _) _) _) _) _) _

theorem lay9_nine (w : World) (k₁ i₁ : Int) (t₁ : ByteArray) (k₂ i₂ : Int) (t₂ : ByteArray) (p₁ p₂ : Int) : Nine (lay9 w k₁ i₁ t₁ k₂ i₂ t₂ p₁ p₂) w.heap.size k₁ i₁ t₁ k₂ i₂ t₂ p₁ p₂ := by
  unfold lay9
  refine ⟨⟨?_, ?_, ?_⟩, ⟨?_, ?_, ?_⟩, ⟨?_, ?_, ?_, ?_, ?_, ?_, ?_, ?_⟩, ?_, ?_, ?_, ?_, ?_, ⟨?_, ?_, ?_, ?_, ?_, ?_, ?_, ?_⟩, by simp⟩
  all_goals go_simp
end Go.Proofs.Ybulkdyta
