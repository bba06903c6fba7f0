/-
  STATEMENT LawS6266AWhole: the rows that the law fills.
-/
import Derived.Test.YbulkdytaA1
namespace Go.Proofs.Ybulkdyta
open Go.RowKit

/-- The agreement's row, its first k elements filled. -/
structure Agr (I : In) (A : Nat) (k : Nat) (w : World) : Prop where
  row : RowN w A (I.la * 3)
  at0 : ∀ j, j < k → w.cell? ⟨A, j * 3, none⟩ = some (.int .i64 (I.fa j))
  at1 : ∀ j, j < k → w.cell? ⟨A, j * 3 + 1, none⟩ = some (.int .i64 j)

theorem Agr.step {I : In} {A k : Nat} {w : World} (h : Agr I A k w) (hk : k < I.la) (u : Value) :
    Agr I A (k + 1) (((w.setCell ⟨A, k * 3, none⟩ (.int .i64 (I.fa k))).setCell ⟨A, k * 3 + 1, none⟩ (.int .i64 k)).setCell ⟨A, k * 3 + 2, none⟩ u) := by
  refine ⟨((h.row.set _ _).set _ _).set _ _, fun j hj => ?_, fun j hj => ?_⟩
  · obtain ⟨v0, r0⟩ := h.row.there (k * 3) (by omega)
    obtain ⟨v1, r1⟩ := h.row.there (k * 3 + 1) (by omega)
    obtain ⟨v2, r2⟩ := h.row.there (k * 3 + 2) (by omega)
    have n2 : ¬ k * 3 + 2 = j * 3 := by omega
    have n1 : ¬ k * 3 + 1 = j * 3 := by omega
    by_cases hjk : j = k
    · subst hjk
      go_simp
    · have n0 : ¬ k * 3 = j * 3 := by omega
      have := h.at0 j (by omega)
      go_simp
  · obtain ⟨v0, r0⟩ := h.row.there (k * 3) (by omega)
    obtain ⟨v1, r1⟩ := h.row.there (k * 3 + 1) (by omega)
    obtain ⟨v2, r2⟩ := h.row.there (k * 3 + 2) (by omega)
    have n2 : ¬ k * 3 + 2 = j * 3 + 1 := by omega
    by_cases hjk : j = k
    · subst hjk
      go_simp
    · have n1 : ¬ k * 3 + 1 = j * 3 + 1 := by omega
      have n0 : ¬ k * 3 = j * 3 + 1 := by omega
      have := h.at1 j (by omega)
      go_simp

/-- The calls' row. -/
structure Cls (I : In) (A : Nat) (k : Nat) (w : World) : Prop where
  row : RowN w A (I.lc * 1)
  at0 : ∀ j, j < k → w.cell? ⟨A, j, none⟩ = some (.int .u8 (I.fc j))

theorem Cls.step {I : In} {A k : Nat} {w : World} (h : Cls I A k w) (hk : k < I.lc) : Cls I A (k + 1) (w.setCell ⟨A, k, none⟩ (.int .u8 (I.fc k))) := by
  refine ⟨h.row.set _ _, fun j hj => ?_⟩
  obtain ⟨v0, r0⟩ := h.row.there k (by omega)
  by_cases hjk : j = k
  · subst hjk
    go_simp
  · have n0 : ¬ k = j := by omega
    have := h.at0 j (by omega)
    go_simp

/-- An element of the input, read later. -/
theorem Has.read {w0 w : World} {B : Nat} {p : Option Addr} {n k : Nat} {f : Nat → Value} (h : Has w0 p n f) (hs : w0.heap.size = B) (hb : Below B w0 w) (hk : k < n) : ∃ b o, p = some ⟨b, o, none⟩ ∧ w.cell? ⟨b, o + k, none⟩ = some (f k) ∧ b < B := by
  obtain ⟨b, o, rfl, hc⟩ := h.at (by omega)
  have h1 := hc k hk
  have hlt : b < w0.heap.size := World.block_lt_of_cell? w0 _ h1
  refine ⟨b, o, rfl, ?_, by omega⟩
  rw [hb.cell (p := ⟨b, o + k, none⟩) (by show b < B; omega)]; exact h1

theorem below_kept {w0 w w' : World} {B A : Nat} (hb : Below B w0 w) (hs : w0.heap.size = B) (k : Kept (· = A) w w') (hA : B ≤ A) : Below B w0 w' :=
  hb.trans (k.below (by have := hb.size; omega) (fun j hj => by omega))
theorem Kept.set3 {A : Nat} {w w1 : World} (h : Kept (· = A) w w1) (i j k : Nat) (a b c : Value) : Kept (· = A) w (((w1.setCell ⟨A, i, none⟩ a).setCell ⟨A, j, none⟩ b).setCell ⟨A, k, none⟩ c) :=
  ((h.trans (Kept.set _ _ _ rfl)).trans (Kept.set _ _ _ rfl)).trans (Kept.set _ _ _ rfl)

end Go.Proofs.Ybulkdyta
