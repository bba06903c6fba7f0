/-
  THE WALK of '(*zzs6261crw).ReadAt'.
-/
import Derived.Test.YbulkdyqiFmtParts
import Derived.Deep.QuietTactic
import Derived.BigQuiet
namespace Go.Proofs.YbulkdyqiFmt
open Go.RowKit

theorem Ybaf.info2 : (Ybaf.prog.info? 2).map (fun i => (i.zero, i.size, i.bytes)) = some (some (.int .i64 0), 1, 8) := by kernel_rfl
theorem Ybaf.info3 : (Ybaf.prog.info? 3).map (fun i => (i.zero, i.size, i.bytes)) = some (some (.int .i64 0), 1, 8) := by kernel_rfl

/-- What was there is there, but for the blocks in S. -/
structure Kept (S : Nat → Prop) (w w' : World) : Prop where
  os : w'.os = w.os
  tape : w'.tape = w.tape
  output : w'.output = w.output
  size : w.heap.size ≤ w'.heap.size
  block : ∀ k, k < w.heap.size → ¬ S k → w'.heap[k]? = w.heap[k]?

theorem Kept.refl (S : Nat → Prop) (w : World) : Kept S w w := ⟨rfl, rfl, rfl, Nat.le_refl _, fun _ _ _ => rfl⟩
theorem Kept.trans {S : Nat → Prop} {a b c : World} (h : Kept S a b) (k : Kept S b c) : Kept S a c :=
  ⟨k.os.trans h.os, k.tape.trans h.tape, k.output.trans h.output, Nat.le_trans h.size k.size, fun j hj hs => by
    rw [k.block j (Nat.lt_of_lt_of_le hj h.size) hs, h.block j hj hs]⟩
theorem Kept.of_below {S : Nat → Prop} {w w' : World} (h : Below w.heap.size w w') : Kept S w w' := ⟨h.os, h.tape, h.output, h.size, fun k hk _ => h.block k hk⟩
theorem Kept.of_grown {S : Nat → Prop} {w w' : World} {row : Option Nat} (h : w.grownBy w' row) (hr : ∀ k, row = some k → S k) : Kept S w w' :=
  ⟨h.os, h.tape, h.output, h.size, fun k hk hs => h.block k hk (fun e => hs (hr k e.symm))⟩
theorem Kept.set {S : Nat → Prop} (w : World) (a : Addr) (u : Value) (h : S a.block) : Kept S w (w.setCell a u) :=
  ⟨rfl, rfl, rfl, by simp, fun k _ hs => Below.heap_setCell _ _ _ _ (fun e => hs (by rw [e]; exact h))⟩
theorem Kept.alloc (S : Nat → Prop) (w : World) (o : Obj) : Kept S w (w.alloc o) := .of_below ((Below.refl _ w).alloc (Nat.le_refl _) o)
theorem Kept.drew (S : Nat → Prop) (w : World) : Kept S w w.drew := ⟨rfl, rfl, rfl, Nat.le_refl _, fun _ _ _ => rfl⟩
theorem Kept.drewN (S : Nat → Prop) (w : World) (k : Nat) : Kept S w (w.drewN k) := ⟨rfl, rfl, rfl, Nat.le_refl _, fun _ _ _ => rfl⟩
theorem Kept.below {S : Nat → Prop} {w w' : World} {B : Nat} (h : Kept S w w') (hB : B ≤ w.heap.size) (hS : ∀ k, S k → B ≤ k) : Below B w w' :=
  ⟨h.os, h.tape, h.output, h.size, fun k hk => h.block k (by omega) (fun hs => by have := hS k hs; omega)⟩
theorem Kept.mono {S T : Nat → Prop} {w w' : World} (h : Kept S w w') (hst : ∀ k, S k → T k) : Kept T w w' := ⟨h.os, h.tape, h.output, h.size, fun k hk ht => h.block k hk (fun hs => ht (hst k hs))⟩
theorem Kept.cell {S : Nat → Prop} {w w' : World} {a : Addr} {v : Value} (h : Kept S w w') (hc : w.cell? a = some v) (hs : ¬ S a.block) : w'.cell? a = some v := by
  rw [World.cell?_of_block (h.block _ (World.block_lt_of_cell? w a hc) hs)]; exact hc
theorem Kept.has {S : Nat → Prop} {w w' : World} {p : Option Addr} {n : Nat} {xs : List Int} (h : Kept S w w') (hh : Has w p n xs) (hs : ∀ x, p = some x → ¬ S x.block) : Has w' p n xs :=
  ⟨hh.1, fun j hj => by
    obtain ⟨x, hx, hc⟩ := hh.2 j hj
    refine ⟨x, hx, h.cell hc ?_⟩
    have : (x.add j).block = x.block := by unfold Addr.add; split <;> rfl
    rw [this]; exact hs x hx⟩

/-- append of one number to a nil slice. -/
theorem wpList_append_nil1 (w : World) {ops : Array Oper} {rest : List Oper} {o : Oper} {a : Act} {Q : Exit → Act → World → Prop} (hgd : o.guard = none) (s x : Operand) (t e : TypeId) (he : (Ybaf.prog.info? e).map (fun i => (i.zero, i.size, i.bytes)) = some (some (.int .i64 0), 1, 8)) (ht : Ybaf.prog.underlying t = some (.slice e))
    (ho : o.op = .call { callee := .builtin .append, args := #[s, x], argTypes := #[t, t] }) (hs : a.eval s = .slice none 0 0) (u : Int) (g0 : Nat) (hx : a.eval x = .slice (some ⟨g0, 0, none⟩) 1 1) (hc : w.cell? ⟨g0, 0, none⟩ = some (.int .i64 u))
    (h : ∀ g cap w', w.heap.size ≤ g → w'.cell? ⟨g, 0, none⟩ = some (.int .i64 u) → w.grownBy w' none → wpList Ybaf.prog ops Q rest (a.put o.dst (.slice (some ⟨g, 0, none⟩) 1 cap)) w') : wpList Ybaf.prog ops Q (o :: rest) a w := by
  obtain ⟨i0, hi, hz0, hz1, hz2⟩ := info_parts he
  refine wpList_append_own w hgd s x t ho w.heap.size e i0 (.int .i64 0) 1 8 ht hi hz0 hz1 hz2 rfl (by decide) _ 0 [] hs (World.ownsRow_nil w _ e 1) ⟨g0, 0, none⟩ 1 1 [.int .i64 u] hx rfl ?_ (by simp [Value.oneCell']) (by unfold maxLen; omega) (by omega) (Nat.le_refl _) ?_
  · intro j v hj
    match j, hj with
    | 0, hj => simp at hj; subst hj; simpa [Addr.add] using hc
  · intro v' w' hown hgrow _
    rcases hown.2 with ⟨_, h0⟩ | ⟨g, cap, cur, h0, hg, hh, _⟩
    · omega
    · subst h0
      refine h g cap w' hg ?_ hgrow
      rw [hown.cellAt 0 (by omega)]
      rfl

/-- The readable output's block. -/
def Rw (w : World) (rb : Nat) (tv : Value) (fail : Bool) (fe : Addr) (ov lv : Value) : Prop := w.heap[rb]? = some (.cells #[tv, .bool fail, .iface 50 (.pointer (some fe)), ov, lv] 31 (0, 0))

theorem Rw.cell {w : World} {rb : Nat} {tv ov lv : Value} {fail : Bool} {fe : Addr} (h : Rw w rb tv fail fe ov lv) :
    w.cell? ⟨rb, 0, none⟩ = some tv ∧ w.cell? ⟨rb, 1, none⟩ = some (.bool fail) ∧ w.cell? ⟨rb, 2, none⟩ = some (.iface 50 (.pointer (some fe))) ∧ w.cell? ⟨rb, 3, none⟩ = some ov ∧ w.cell? ⟨rb, 4, none⟩ = some lv ∧
    w.frozen? ⟨rb, 3, none⟩ = false ∧ w.frozen? ⟨rb, 4, none⟩ = false := by
  refine ⟨?_, ?_, ?_, ?_, ?_, frozen_of_row w rb 3 _ 31 h, frozen_of_row w rb 4 _ 31 h⟩
  all_goals (rw [cell_of_row w rb _ _ 31 (0, 0) h]; rfl)
theorem Rw.lt {w : World} {rb : Nat} {tv ov lv : Value} {fail : Bool} {fe : Addr} (h : Rw w rb tv fail fe ov lv) : rb < w.heap.size := by
  unfold Rw at h; exact (Array.getElem?_eq_some_iff.1 h).1
theorem Rw.kept {S : Nat → Prop} {w w' : World} {rb : Nat} {tv ov lv : Value} {fail : Bool} {fe : Addr} (h : Rw w rb tv fail fe ov lv) (k : Kept S w w') (hs : ¬ S rb) : Rw w' rb tv fail fe ov lv := by
  have := h.lt
  unfold Rw at h ⊢
  rw [k.block rb this hs]; exact h

/-- What ReadAt leaves: the two logs. -/
structure Logged (rb sb : Nat) (tv : Value) (fail : Bool) (fe : Addr) (pos n : Int) (w w' : World) : Prop where
  rw : ∃ g1 c1 g2 c2, Rw w' rb tv fail fe (.slice (some ⟨g1, 0, none⟩) 1 c1) (.slice (some ⟨g2, 0, none⟩) 1 c2) ∧ w'.cell? ⟨g1, 0, none⟩ = some (.int .i64 pos) ∧ w'.cell? ⟨g2, 0, none⟩ = some (.int .i64 n) ∧ w.heap.size ≤ g1 ∧ w.heap.size ≤ g2
  kept : Kept (fun k => k = rb ∨ k = sb) w w'

theorem logged_of {rb : Nat} {tv : Value} {fail : Bool} {fe : Addr} {pos n : Int} {w w1 w2 : World} {g1 c1 g2 c2 : Nat} {o1 o2 : Obj} (h : Rw w rb tv fail fe (.slice none 0 0) (.slice none 0 0))
    (hg1 : (w.alloc o1).heap.size ≤ g1) (hc1 : w1.cell? ⟨g1, 0, none⟩ = some (.int .i64 pos)) (hw1 : (w.alloc o1).grownBy w1 none)
    (hg2 : ((w1.setCell ⟨rb, 3, none⟩ (.slice (some ⟨g1, 0, none⟩) 1 c1)).alloc o2).heap.size ≤ g2) (hc2 : w2.cell? ⟨g2, 0, none⟩ = some (.int .i64 n)) (hw2 : ((w1.setCell ⟨rb, 3, none⟩ (.slice (some ⟨g1, 0, none⟩) 1 c1)).alloc o2).grownBy w2 none) :
    Rw w1 rb tv fail fe (.slice none 0 0) (.slice none 0 0) ∧ Rw w2 rb tv fail fe (.slice (some ⟨g1, 0, none⟩) 1 c1) (.slice none 0 0) ∧ ∀ sb, Logged rb sb tv fail fe pos n w (w2.setCell ⟨rb, 4, none⟩ (.slice (some ⟨g2, 0, none⟩) 1 c2)) := by
  have k1 : Kept (fun _ => False) w w1 := (Kept.alloc _ w o1).trans (.of_grown hw1 (fun k h => by cases h))
  have r1 := h.kept k1 (fun h => h)
  have r1' : Rw (w1.setCell ⟨rb, 3, none⟩ (.slice (some ⟨g1, 0, none⟩) 1 c1)) rb tv fail fe (.slice (some ⟨g1, 0, none⟩) 1 c1) (.slice none 0 0) := by
    have := r1
    unfold Rw at this ⊢
    rw [heap_setCell_same w1 rb 3 _ 31 _ this]; rfl
  have k2 : Kept (fun _ => False) (w1.setCell ⟨rb, 3, none⟩ (.slice (some ⟨g1, 0, none⟩) 1 c1)) w2 := (Kept.alloc _ _ o2).trans (.of_grown hw2 (fun k h => by cases h))
  have r2 := r1'.kept k2 (fun h => h)
  refine ⟨r1, r2, fun sb => ?_⟩
  have hrb := h.lt
  have s1 := k1.size
  have hg1' : w.heap.size + 1 ≤ g1 := by simpa using hg1
  have hg2' : w1.heap.size + 1 ≤ g2 := by simpa using hg2
  refine ⟨⟨g1, c1, g2, c2, ?_, ?_, ?_, by omega, by omega⟩, ?_⟩
  · have := r2
    unfold Rw at this ⊢
    rw [heap_setCell_same w2 rb 4 _ 31 _ this]; rfl
  · have hlt := World.block_lt_of_cell? w1 _ hc1
    have e1 : (w1.setCell ⟨rb, 3, none⟩ (.slice (some ⟨g1, 0, none⟩) 1 c1)).cell? ⟨g1, 0, none⟩ = some (.int .i64 pos) := by
      rw [World.cell?_of_block (w := w1) (Below.heap_setCell _ _ _ _ (by show g1 ≠ rb; omega))]; exact hc1
    have e2 := k2.cell e1 (fun h => h)
    rw [World.cell?_of_block (w := w2) (Below.heap_setCell _ _ _ _ (by show g1 ≠ rb; omega))]; exact e2
  · rw [World.cell?_of_block (w := w2) (Below.heap_setCell _ _ _ _ (by show g2 ≠ rb; omega))]; exact hc2
  · exact ((((k1.mono (fun _ h => h.elim)).trans (.set w1 _ _ (.inl rfl))).trans (k2.mono (fun _ h => h.elim)))).trans (.set w2 _ _ (.inl rfl))

end Go.Proofs.YbulkdyqiFmt
