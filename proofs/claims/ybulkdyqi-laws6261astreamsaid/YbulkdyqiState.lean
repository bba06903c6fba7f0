/-
  THE STATE of LawS6261AStream's first loop: the writer stands at the number V of L bits; the row of bits holds B.
-/
import Derived.Test.YbulkdyqiAddWalk
import Derived.Test.YbulkdyqiClone
import Derived.Test.YbulkdyqiEq
namespace Go.Proofs.Ybulkdyqi
open Go.RowKit Plain

structure St (base pb gb nb : Nat) (w0 : World) (pre : List Int) (V L : Nat) (ao : Option Addr) (cap : Nat) (B : List Int) (w : World) : Prop where
  wr : Wr w pb (.slice ao (pre.length + L / 8) cap) ((V / 256 ^ (L / 8) : Nat) : Int) ((L % 8 : Nat) : Int)
  own : w.ownsRow base 5 1 (.slice ao (pre.length + L / 8) cap) (pre.length + L / 8) (u8s (pre ++ byts V (L / 8)))
  row : w.ownsRow base 5 1 (.slice (some ⟨gb, 0, none⟩) B.length nb) B.length (u8s B)
  apart : (Value.slice ao (pre.length + L / 8) cap).ownBlock ≠ some gb
  below : Below base w0 w

theorem St.ne {base pb gb nb : Nat} {w0 : World} {pre : List Int} {V L : Nat} {ao : Option Addr} {cap : Nat} {B : List Int} {w : World} (h : St base pb gb nb w0 pre V L ao cap B w) : gb ≠ pb :=
  fun e => h.wr.apart h.row (by rw [← e]; rfl)

theorem St.gblt {base pb gb nb : Nat} {w0 : World} {pre : List Int} {V L : Nat} {ao : Option Addr} {cap : Nat} {B : List Int} {w : World} (h : St base pb gb nb w0 pre V L ao cap B w) : base ≤ gb ∧ gb < w.heap.size := h.row.lt gb rfl

/-- 'add' on the state. -/
theorem add_st {base pb gb nb : Nat} {w0 : World} {pre : List Int} {V L : Nat} {ao : Option Addr} {cap : Nat} {B : List Int} {w : World} (v k : Nat) (h : St base pb gb nb w0 pre V L ao cap B w)
    (hbp : base ≤ pb) (hV : V < 2 ^ L) (hv : v < 2 ^ k) (hk : k ≤ 32) (hpre : pre.length ≤ 1048576) (hL : L ≤ 200000) :
    Calls Yba.prog 8 #[.pointer (some ⟨pb, 0, none⟩), .int .u64 v, .int .u64 k] w fun e w' => e = .returned (.tuple #[]) ∧
      ∃ ao' cap', St base pb gb nb w0 pre (V + v * 2 ^ L) (L + k) ao' cap' B w' := by
  have hlen : (pre ++ byts V (L / 8)).length = pre.length + L / 8 := by simp [byts_length]
  have hw := h.wr
  have ho := h.own
  rw [← hlen] at hw ho
  have hA : V / 256 ^ (L / 8) < 2 ^ (L % 8) := by
    have := div_lt V L (L / 8) hV (by omega)
    rwa [show L - 8 * (L / 8) = L % 8 by omega] at this
  refine (add_any base pb ao cap (V / 256 ^ (L / 8)) (L % 8) v k (pre ++ byts V (L / 8)) w (by omega) hA hv hk (by rw [hlen]; omega) hbp hw ho).mono ?_
  rintro e w' ⟨rfl, ao', cap', F⟩
  refine ⟨rfl, ao', cap', ?_⟩
  have eX : V / 256 ^ (L / 8) + v * 2 ^ (L % 8) = (V + v * 2 ^ L) / 256 ^ (L / 8) := by
    rw [div_hi V v L (L / 8) (by omega), show L - 8 * (L / 8) = L % 8 by omega]
  have eM : (L + k) / 8 = L / 8 + (L % 8 + k) / 8 := by omega
  have eN : (L % 8 + k) % 8 = (L + k) % 8 := by omega
  rw [eX, eN, hlen, Nat.div_div_eq_div_mul, ← Nat.pow_add, ← eM, Nat.add_assoc, ← eM, List.append_assoc] at F
  have eB : byts V (L / 8) ++ byts ((V + v * 2 ^ L) / 256 ^ (L / 8)) ((L % 8 + k) / 8) = byts (V + v * 2 ^ L) ((L + k) / 8) := by
    rw [eM, byts_add, byts_low V v L (L / 8) (by omega)]
  rw [eB] at F
  have hg := h.gblt
  refine ⟨F.wr, ?_, ?_, ?_, h.below.trans F.below⟩
  · have := F.own
    rwa [show (pre ++ byts (V + v * 2 ^ L) ((L + k) / 8)).length = pre.length + (L + k) / 8 by simp [byts_length]] at this
  · refine ownsRow_of_heap h.row fun g hg' => ?_
    obtain rfl : gb = g := by simpa [Value.ownBlock] using hg'
    exact F.frame gb hg.2 h.ne h.apart
  · rcases F.fresh with e | e
    · rw [e]; exact h.apart
    · intro e'; have := e gb e'; omega

/-- A bit more in the row. -/
theorem St.bit {base pb gb nb : Nat} {w0 : World} {pre : List Int} {V L : Nat} {ao : Option Addr} {cap : Nat} {B : List Int} {w w' : World} {b : Int} {o : Obj} (h : St base pb gb nb w0 pre V L ao cap B w)
    (hr : w'.ownsRow base 5 1 (.slice (some ⟨gb, 0, none⟩) (B.length + 1) nb) (B.length + 1) (u8s B ++ [.int .u8 b])) (hg : (w.alloc o).grownBy w' (some gb)) : St base pb gb nb w0 pre V L ao cap (B ++ [b]) w' := by
  have hlt := h.wr.lt
  have hgb := h.gblt
  refine ⟨?_, ?_, ?_, h.apart, (h.below.alloc (by omega) _).grown hg (by simp; omega) (fun k e => by simp at e; omega)⟩
  · have hw := h.wr
    unfold Wr at hw ⊢
    rw [hg.block pb (by simp; omega) (fun e => h.ne (by simpa using e.symm)), Below.heap_alloc _ _ _ hlt]
    exact hw
  · refine ownsRow_of_heap h.own fun g hg' => ?_
    have := (h.own.lt g hg').2
    rw [hg.block g (by simp; omega) (fun e => h.apart (by rw [hg', e])), Below.heap_alloc _ _ _ this]
  · rw [show (B ++ [b]).length = B.length + 1 by simp, u8s_append]
    exact hr

/-- The state behind 'pad'. -/
structure Fi (base pb gb nb : Nat) (w0 : World) (pre : List Int) (V L : Nat) (ao : Option Addr) (cap : Nat) (acc : Int) (w : World) : Prop where
  wr : Wr w pb (.slice ao (pre.length + (L + 7) / 8) cap) acc ((L % 8 : Nat) : Int)
  own : w.ownsRow base 5 1 (.slice ao (pre.length + (L + 7) / 8) cap) (pre.length + (L + 7) / 8) (u8s (pre ++ byts V ((L + 7) / 8)))
  row : w.ownsRow base 5 1 (.slice (some ⟨gb, 0, none⟩) L nb) L (u8s (bitl V L))
  below : Below base w0 w

theorem pad_st {base pb gb nb : Nat} {w0 : World} {pre : List Int} {V L : Nat} {ao : Option Addr} {cap : Nat} {w : World} (h : St base pb gb nb w0 pre V L ao cap (bitl V L) w) (hbp : base ≤ pb) (hpre : pre.length ≤ 1048576) (hL : L ≤ 200000) :
    Calls Yba.prog 6 #[.pointer (some ⟨pb, 0, none⟩)] w fun e w' => ∃ ao' cap' acc, e = .returned (.slice ao' (pre.length + (L + 7) / 8) cap') ∧ Fi base pb gb nb w0 pre V L ao' cap' acc w' := by
  have hrow := h.row
  rw [bitl_length] at hrow
  by_cases h0 : L % 8 = 0
  · have hw := h.wr
    rw [h0] at hw
    refine (pad_zero pb ao _ cap _ w hw).mono ?_
    rintro e w' ⟨rfl, rfl⟩
    have e7 : (L + 7) / 8 = L / 8 := by omega
    refine ⟨ao, cap, ((V / 256 ^ (L / 8) : Nat) : Int), by rw [e7], ?_, ?_, hrow, h.below⟩
    · rw [e7]; exact h.wr
    · rw [e7]; exact h.own
  · have hlen : (pre ++ byts V (L / 8)).length = pre.length + L / 8 := by simp [byts_length]
    have hw := h.wr
    have ho := h.own
    rw [← hlen] at hw ho
    refine (pad_pos base pb ao cap _ _ (pre ++ byts V (L / 8)) w (by omega) (by rw [hlen]; omega) hbp hw ho).mono ?_
    rintro e w' ⟨g, cap', rfl, G⟩
    have e7 : (L + 7) / 8 = L / 8 + 1 := by omega
    have eb : (pre ++ byts V (L / 8)) ++ [IntKind.u8.wrap ((V / 256 ^ (L / 8) : Nat) : Int)] = pre ++ byts V (L / 8 + 1) := by
      rw [byts_succ, List.append_assoc, byt, IntKind.wrap_u8]; simp
    rw [eb, hlen] at G
    rw [e7, hlen, ← Nat.add_assoc]
    have hg := h.gblt
    refine ⟨some ⟨g, 0, none⟩, cap', ((V / 256 ^ (L / 8) : Nat) : Int), rfl, ?_, ?_, ?_, h.below.trans G.2.2.1⟩
    · rw [e7, ← Nat.add_assoc]; exact G.1
    · rw [e7, ← Nat.add_assoc]; exact G.2.1
    · refine ownsRow_of_heap hrow fun k hk => ?_
      obtain rfl : gb = k := by simpa [Value.ownBlock] using hk
      exact G.2.2.2 gb hg.2 h.ne h.apart

/-- The expectation under way, in a row at the end of 'w2'. -/
def ExpC (w2 : World) (cap : Nat) (ys : List Int) (w : World) : Prop :=
  w.ownsRow w2.heap.size 5 1 (.slice (some ⟨w2.heap.size, 0, none⟩) ys.length cap) ys.length (u8s ys) ∧ Below w2.heap.size w2 w

theorem ExpC.next {w2 w w' : World} {cap : Nat} {ys : List Int} {b : Int} {o : Obj} (h : ExpC w2 cap ys w)
    (hr : w'.ownsRow w2.heap.size 5 1 (.slice (some ⟨w2.heap.size, 0, none⟩) (ys.length + 1) cap) (ys.length + 1) (u8s ys ++ [.int .u8 b])) (hg : (w.alloc o).grownBy w' (some w2.heap.size)) : ExpC w2 cap (ys ++ [b]) w' := by
  refine ⟨?_, (h.2.alloc h.2.size _).grown hg (by have := h.2.size; simp; omega) (fun k h => by simp at h; omega)⟩
  rw [show (ys ++ [b]).length = ys.length + 1 by simp, u8s_append]
  exact hr

theorem ExpC.start {w2 w3 : World} {cap : Nat} (h : w3.ownsRow w2.heap.size 5 1 (.slice (some ⟨w2.heap.size, 0, none⟩) 0 cap) 0 []) (hg : w2.grownBy w3 none) : ExpC w2 cap [] w3 :=
  ⟨h, (Below.refl _ _).grown hg (Nat.le_refl _) (fun k h => by cases h)⟩

/-- The clone, whatever came in. -/
theorem clone_any (pa : Option Addr) (cap : Nat) (zs : List Int) (w : World) (hl : zs.length ≤ 1048576) (hnil : pa = none → zs = [] ∧ cap = 0)
    (hc : ∀ j, j < zs.length → ∃ x, pa = some x ∧ w.cell? (x.add j) = some (.int .u8 (zs.getD j 0))) :
    Calls Yba.prog 5 #[.slice pa zs.length cap] w fun e w' => ∃ ao cap', e = .returned (.slice ao zs.length cap') ∧ w'.ownsRow w.heap.size 5 1 (.slice ao zs.length cap') zs.length (u8s zs) ∧ Below w.heap.size w w' := by
  cases pa with
  | none =>
    obtain ⟨rfl, rfl⟩ := hnil rfl
    refine (clone_nil w).mono ?_
    rintro e w' ⟨rfl, rfl⟩
    exact ⟨none, 0, rfl, World.ownsRow_nil _ _ _ _, Below.refl _ _⟩
  | some x =>
    refine (clone_some x cap zs w hl ?_).mono ?_
    · intro j hj
      obtain ⟨x', hx, h⟩ := hc j hj
      obtain rfl : x = x' := by simpa using hx
      exact h
    · rintro e w' ⟨g, rfl, h1, h2⟩
      exact ⟨some ⟨g, 0, none⟩, zs.length, rfl, h1, h2⟩

end Go.Proofs.Ybulkdyqi
