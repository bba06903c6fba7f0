/-
  LawS6261CWhole: aids for the ways on which bytes are handed back.
-/
import Derived.Test.YbulkdyqiFmtLawA
namespace Go.Proofs.YbulkdyqiFmt
open Go.RowKit Go.Extern.Stop Go.Stop Go.Extern
set_option maxRecDepth 100000

theorem getD_part (bs : List Int) (pos n j : Nat) (hj : j < n) : ((bs.drop pos).take n).getD j 0 = bs.getD (pos + j) 0 := by
  simp [List.getD, hj, List.getElem?_drop]

/-- A part of what a slice reads as. -/
theorem Has.part {w : World} {p : Option Addr} {bl : Nat} {bs : List Int} (h : Has w p bl bs) (pos n : Nat) (hr : pos + n ≤ bl) : Has w (p.map fun x => x.add pos) n ((bs.drop pos).take n) := by
  refine ⟨by rw [List.length_take, List.length_drop, h.1]; omega, fun j hj => ?_⟩
  obtain ⟨x, rfl, hc⟩ := h.2 (pos + j) (by omega)
  refine ⟨x.add pos, rfl, ?_⟩
  have e : (x.add pos).add j = x.add (pos + j) := by
    unfold Addr.add
    by_cases h1 : pos = 0
    · subst h1; simp
    · by_cases h2 : j = 0
      · subst h2; simp [h1]
      · simp [h1, h2, Nat.add_assoc]
  rw [e, hc, getD_part bs pos n j hj]

/-- The base's own bytes are handed on. -/
def GotB (bo : Option Addr) (pos n : Nat) (bs : List Int) (w : World) (e : Ending) (w' : World) : Prop :=
  ∃ ga gc, e = .returned (.tuple #[.slice ga n gc, .nilIface]) ∧ Below w.heap.size w w' ∧ Has w ga n ((bs.drop pos).take n) ∧ (0 < n → ∃ bg, bo = some ⟨bg, 0, none⟩ ∧ ga = some ⟨bg, pos, none⟩)

theorem seg_A2 (base db : Nat) (bo : Option Addr) (bl bc : Nat) (bs : List Int) (wv sv : Value) (mw wr wn : Int) (ind : Int) (n pos : Nat) (w : World) (hD : Dc w db (.slice bo bl bc) wv mw wr wn sv) (hO : w.ownsRow base 5 1 (.slice bo bl bc) bl (u8s bs)) (hl : bs.length = bl)
    (hI : (bits BinOp.and IntKind.u8 ind 1 != 0) = true) (hbl : bl ≤ 1048576) (hr : pos + n ≤ bl) :
    Calls Ybaf.prog 6 #[.pointer (some ⟨db, 0, none⟩), .int .u8 ind, .int .i64 n, .int .i64 pos] w (GotB bo pos n bs w) := by
  have hH := own_has hl hO
  rcases hO.2 with ⟨h0, h1⟩ | ⟨bg, cp, cur, h0, _, _, hlc, hcm, _⟩
  · simp only [Value.slice.injEq] at h0
    obtain ⟨rfl, rfl, rfl⟩ := h0
    obtain rfl : n = 0 := by omega
    obtain rfl : pos = 0 := by omega
    have hz : bs = [] := List.eq_nil_of_length_eq_zero hl
    subst hz
    refine (seg_A2_nil db wv sv mw wr wn ind w hD hI).mono ?_
    rintro e w' ⟨rfl, rfl⟩
    exact ⟨none, 0, rfl, Below.refl _ _, Has.nil _ _, fun h => by omega⟩
  · simp only [Value.slice.injEq, true_and] at h0
    obtain ⟨rfl, rfl⟩ := h0
    refine (seg_A2_some db bg bl bc wv sv mw wr wn ind n pos w hD hI hbl hlc (by unfold maxLen at hcm; omega) hr).mono ?_
    rintro e w' ⟨ga, gc, rfl, rfl, hga⟩
    refine ⟨some ga, gc, rfl, Below.refl _ _, ?_, fun h => ⟨bg, rfl, by rw [hga h]⟩⟩
    rcases Nat.eq_zero_or_pos n with h | h
    · subst h
      have e : (bs.drop pos).take 0 = [] := by simp
      rw [e]; exact Has.nil _ _
    · have := hH.part pos n hr
      rw [hga h]
      simpa [Addr.add_lit] using this

/-- A byte and its complement differ; twice the complement is the byte. -/
theorem xor_ne (v : Int) (h0 : 0 ≤ v) (h1 : v ≤ 255) : (bits BinOp.xor IntKind.u8 v 255 != v) = true := by
  obtain ⟨x, rfl⟩ : ∃ x : Nat, v = x := ⟨v.toNat, by omega⟩
  have h := u8_xor_nat x 255 (by omega) (by omega)
  have e : bits BinOp.xor IntKind.u8 (x : Int) 255 = ((x ^^^ 255 : Nat) : Int) := h
  rw [e]
  have hx : x < 256 := by omega
  have all : ∀ y : Fin 256, y.val ^^^ 255 ≠ y.val := by decide
  have := all ⟨x, hx⟩
  simp only [bne_iff_ne, ne_eq, Int.natCast_inj]
  exact this

end Go.Proofs.YbulkdyqiFmt
