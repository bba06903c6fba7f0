/-
  STATEMENT LawS6266AWhole: empty, on a map and on nil.
-/
import Derived.Test.YbulkdytaA7
namespace Go.Proofs.Ybulkdyta
open Go.RowKit Go.Maps

/-- What reset says, as empty_any takes it. -/
def AfterReset (w : World) (E M N n : Nat) (L0 : List Addr) (D : DataW (Option Addr)) (a q _c : Nat) (w1 : World) : Prop :=
  ∃ L, q = n + L.length ∧ (∀ j p, (L0 ++ L)[j]? = some p → w1.cell? ⟨a, j, none⟩ = some (.pointer (some p))) ∧ a ≠ E ∧ a ≠ M ∧ L.Nodup ∧ (∀ p, p ∈ L ↔ ∃ kl, Maps.has D kl = true ∧ ∀ zd, D.atKey kl zd = .held (some p)) ∧ w1.ownsMap Yba.prog 9 ptrR M N (.map []) ∧ Kept (fun k => k = E ∨ k = M) w w1

theorem Ev.put4 {w w' : World} {E : Nat} {cs cs' : List Value} {u : Value} (h : Ev w E cs) (h4 : w'.cell? ⟨E, 4, none⟩ = some u) (ho : ∀ o, o ≠ 4 → w'.cell? ⟨E, o, none⟩ = w.cell? ⟨E, o, none⟩) (hf : ∀ o, w'.frozen? ⟨E, o, none⟩ = w.frozen? ⟨E, o, none⟩) (hcs : cs' = cs.set 4 u) : Ev w' E cs' := by
  subst hcs
  refine ⟨fun o v hv => ?_, fun o => by rw [hf o]; exact h.free o⟩
  by_cases h4' : o = 4
  · subst h4'
    rw [List.getElem?_set] at hv
    simp at hv
    rw [h4, hv.2]
  · rw [List.getElem?_set_ne (by omega)] at hv
    rw [ho o h4']; exact h.at0 o v hv

theorem empty_some (I : In) (E S M N A rq tg cl : Nat) (Lb : List Addr) (D : DataW (Option Addr)) (ri : Option Nat) (q1 q2 q3 : Option Addr) (d0 d1 d2 d9 d10 d11 d12 d13 d14 d15 d26 : Value) (w : World)
    (hE : Ev w E [d0, d1, d2, .map (some M), .slice (some ⟨S, 0, none⟩) I.spare I.spare, .slice (some ⟨rq, 0, none⟩) I.lr I.lr, .slice (some ⟨tg, 0, none⟩) I.lt I.lt, .map ri, .slice (some ⟨A, 0, none⟩) I.la I.la, d9, d10, d11, d12, d13, d14, d15, .slice (some ⟨cl, 0, none⟩) I.lc I.lc, .slice q1 I.l1 I.l1, .int .i64 I.block, .int .i64 I.used, .slice q2 I.l2 I.l2, .int .i64 I.block, .int .i64 I.used, .slice q3 I.l3 I.l3, .int .i64 I.block, .int .i64 I.used, d26])
    (hown : w.ownsMap Yba.prog 9 ptrR M N D) (hS : w.ownsRow S 55 1 (.slice (some ⟨S, 0, none⟩) I.spare I.spare) I.spare (ptrs Lb)) (hn : Lb.length = I.spare) (hN : N ≤ 1024) (hn2 : I.spare ≤ 255) (hES : E ≠ S) (hEM : E ≠ M)
    (hinj : ∀ k1 k2 p, (∀ zd, D.atKey k1 zd = .held (some p)) → (∀ zd, D.atKey k2 zd = .held (some p)) → k1 = k2) :
    Calls Yba.prog 10 #[.pointer (some ⟨E, 0, none⟩)] w fun e w' => Emptied (AfterReset w E M N I.spare Lb D) E (some M) ri A I.la rq tg cl I.lr I.lt I.lc q1 q2 q3 I.l1 I.l2 I.l3 I.block I.used e w' := by
  refine empty_any (AfterReset w E M N I.spare Lb D) E (some M) ri A I.la rq tg cl I.lr I.lt I.lc q1 q2 q3 I.l1 I.l2 I.l3 I.block I.used d0 d1 d2 d9 d10 d11 d12 d13 d14 d15 d26 w ?_
  refine (reset_some E S M N I.spare Lb D w (hE.at0 3 _ rfl) (hE.at0 4 _ rfl) (hE.free 4) hown hS hn hN hn2 hES hEM hinj).mono ?_
  rintro e w1 ⟨a, q, c, L, rfl, c4, hq, hc, haE, haM, hnd, hmem, hmap, hk, ho, hf⟩
  exact ⟨a, q, c, rfl, ⟨L, hq, hc, haE, haM, hnd, hmem, hmap, hk⟩, hE.put4 c4 ho hf rfl⟩

theorem empty_nil (I : In) (E S A rq tg cl : Nat) (ri : Option Nat) (q1 q2 q3 : Option Addr) (d0 d1 d2 d9 d10 d11 d12 d13 d14 d15 d26 : Value) (w : World)
    (hE : Ev w E [d0, d1, d2, .map none, .slice (some ⟨S, 0, none⟩) I.spare I.spare, .slice (some ⟨rq, 0, none⟩) I.lr I.lr, .slice (some ⟨tg, 0, none⟩) I.lt I.lt, .map ri, .slice (some ⟨A, 0, none⟩) I.la I.la, d9, d10, d11, d12, d13, d14, d15, .slice (some ⟨cl, 0, none⟩) I.lc I.lc, .slice q1 I.l1 I.l1, .int .i64 I.block, .int .i64 I.used, .slice q2 I.l2 I.l2, .int .i64 I.block, .int .i64 I.used, .slice q3 I.l3 I.l3, .int .i64 I.block, .int .i64 I.used, d26]) :
    Calls Yba.prog 10 #[.pointer (some ⟨E, 0, none⟩)] w fun e w' => Emptied (fun a q _ w1 => a = S ∧ q = I.spare ∧ Below w.heap.size w w1) E none ri A I.la rq tg cl I.lr I.lt I.lc q1 q2 q3 I.l1 I.l2 I.l3 I.block I.used e w' := by
  refine empty_any _ E none ri A I.la rq tg cl I.lr I.lt I.lc q1 q2 q3 I.l1 I.l2 I.l3 I.block I.used d0 d1 d2 d9 d10 d11 d12 d13 d14 d15 d26 w ?_
  refine (reset_nil E w (hE.at0 3 _ rfl)).mono ?_
  rintro e w1 ⟨rfl, hb⟩
  exact ⟨S, I.spare, I.spare, rfl, ⟨rfl, rfl, hb⟩, ⟨fun o v hv => (Kept.of_below (S := fun _ => False) hb).cell (hE.at0 o v hv) (fun x => x), fun o => by rw [World.frozen?_of_block (hb.block E (World.block_lt_of_cell? w _ (hE.at0 0 _ rfl)))]; exact hE.free o⟩⟩

end Go.Proofs.Ybulkdyta
