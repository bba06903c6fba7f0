/-
  THE WALK of '(*decoder).segment': the target is read back.
-/
import Derived.Test.YbulkdyqiFmtSegE
namespace Go.Proofs.YbulkdyqiFmt
open Go.RowKit Go.Extern.Stop Go.Stop Go.Extern
set_option maxRecDepth 100000

/-- slices.Grow at the segment's row, where the outcome is no nil. -/
theorem grow_some (base L cap n : Nat) (ao : Option Addr) (xs : List Value) (w : World) (hn : n ≤ 1048576) (hb : base ≤ w.heap.size) (ho : w.ownsRow base 5 1 (.slice ao L cap) L xs) (hne : ao ≠ none ∨ 0 < n) :
    Calls Ybaf.prog 11 #[.slice ao 0 cap, .int .i64 n] w fun e w' => ∃ g cap', e = .returned (.slice (some ⟨g, 0, none⟩) 0 cap') ∧ n ≤ cap' ∧ cap' ≤ maxLen ∧ (∃ ys, w'.ownsRow base 5 1 (.slice (some ⟨g, 0, none⟩) n cap') n ys) ∧ Below w.heap.size w w' ∧ (ao = some ⟨g, 0, none⟩ ∨ w.heap.size ≤ g) := by
  rcases ho.2 with ⟨h0, h1⟩ | ⟨g, cp, cur, h0, hbg, hg, hlc, hcm, hcs, htk⟩
  · simp only [Value.slice.injEq] at h0
    obtain ⟨rfl, rfl, rfl⟩ := h0
    have hn0 : 0 < n := by rcases hne with h | h; exact absurd rfl h; exact h
    refine (grow_new none 0 n [] w hn0 hn rfl (fun _ => rfl) (fun a h => by cases h)).mono ?_
    rintro e w' ⟨G, hG, hGm, rfl, cur, hcur, rfl⟩
    refine ⟨w.heap.size, G, rfl, hG, hGm, ⟨cur.toList.take (n * 1), ?_⟩, ((Below.refl _ w).drew).alloc (Nat.le_refl _) _, .inr (Nat.le_refl _)⟩
    exact ⟨by simp; omega, .inr ⟨w.heap.size, G, cur, rfl, hb, heap_alloc_new w.drew _, hG, hGm, by omega, rfl⟩⟩
  · simp only [Value.slice.injEq, true_and] at h0
    obtain ⟨rfl, rfl⟩ := h0
    by_cases hr : n ≤ cap
    · refine (grow_room (some ⟨g, 0, none⟩) cap n w (by unfold maxLen at hcm; omega) hr).mono ?_
      rintro e w' ⟨rfl, rfl⟩
      exact ⟨g, cap, rfl, hr, hcm, ⟨cur.toList.take (n * 1), by simp; omega, .inr ⟨g, cap, cur, rfl, hbg, hg, hr, hcm, hcs, rfl⟩⟩, Below.refl _ _, .inl rfl⟩
    · refine (grow_new (some ⟨g, 0, none⟩) cap n cur.toList w (by omega) hn (by simp; omega) (fun h => by cases h) ?_).mono ?_
      · intro a ha j v hj
        obtain rfl : (⟨g, 0, none⟩ : Addr) = a := by simpa using ha
        rw [Addr.add_lit, Nat.zero_add, cell_of_row w g j _ 5 (0, 0) hg]
        simpa using hj
      · rintro e w' ⟨G, hG, hGm, rfl, cur', hcur, rfl⟩
        refine ⟨w.heap.size, G, rfl, hG, hGm, ⟨cur'.toList.take (n * 1), ?_⟩, ((Below.refl _ w).drew).alloc (Nat.le_refl _) _, .inr (Nat.le_refl _)⟩
        exact ⟨by simp; omega, .inr ⟨w.heap.size, G, cur', rfl, hb, heap_alloc_new w.drew _, hG, hGm, by omega, rfl⟩⟩

/-- What the read back leaves, whatever its outcome. -/
structure ReadBack (db rb : Nat) (bv wv : Value) (mw wr wn : Int) (so : Option Addr) (tv : Value) (fail : Bool) (fe : Addr) (pos n : Int) (sv : Value) (w w' : World) : Prop where
  rw : ∃ g1 c1 g2 c2, Rw w' rb tv fail fe (.slice (some ⟨g1, 0, none⟩) 1 c1) (.slice (some ⟨g2, 0, none⟩) 1 c2) ∧ w'.cell? ⟨g1, 0, none⟩ = some (.int .i64 pos) ∧ w'.cell? ⟨g2, 0, none⟩ = some (.int .i64 n)
  dc : Dc w' db bv wv mw wr wn sv
  kept : Kept (fun k => k = db ∨ k = rb ∨ so.map (·.block) = some k) w w'

/-- A row of bytes and the decoder's block are two blocks. -/
theorem Dc.apart {w : World} {db base : Nat} {bv wv sv u : Value} {mw wr wn : Int} {k : Nat} {xs : List Value} (h : Dc w db bv wv mw wr wn sv) (ho : w.ownsRow base 5 1 u k xs) : u.ownBlock ≠ some db := by
  intro hb
  rcases ho.2 with ⟨rfl, _⟩ | ⟨g, cap, cur, rfl, _, hg, _⟩
  · cases hb
  · obtain rfl : g = db := by simpa [Value.ownBlock] using hb
    unfold Dc at h
    rw [h] at hg
    simp at hg
theorem Dc.ne {w : World} {db rb : Nat} {bv wv sv tv ov lv : Value} {mw wr wn : Int} {fail : Bool} {fe : Addr} (h : Dc w db bv wv mw wr wn sv) (hr : Rw w rb tv fail fe ov lv) : db ≠ rb := by
  rintro rfl
  unfold Dc at h
  unfold Rw at hr
  rw [h] at hr
  simp at hr

theorem nilAheadR (a : Addr) (w : World) : (nilAhead 223 27 (.pointer (some a)) "ReadAt").run Ybaf.prog w = .ok (some false) w := by kernel_rfl
theorem methodR (a : Addr) (w : World) : (method 223 27 (.pointer (some a)) "ReadAt").run Ybaf.prog w = .ok (31, .pointer (some a)) w := by kernel_rfl

/-- The world in which ReadAt is called, behind the store of the grown segment. -/
theorem before_read {base base' db rb : Nat} {bv wv : Value} {mw wr wn : Int} {so : Option Addr} {sl sc : Nat} {ta : Option Addr} {tl tc : Nat} {ts : List Int} {fail : Bool} {fe : Addr} {w w1 : World} {sv : Value} {n : Nat} {ys : List Value}
    (hD : Dc w db bv wv mw wr wn (.slice so sl sc)) (hR : Rw w rb (.slice ta tl tc) fail fe (.slice none 0 0) (.slice none 0 0)) (hT : w.ownsRow base' 5 1 (.slice ta tl tc) tl (u8s ts))
    (hb : Below w.heap.size w w1) (hy : w1.ownsRow base 5 1 sv n ys) :
    Dc (w1.setCell ⟨db, 17, none⟩ sv) db bv wv mw wr wn sv ∧ Rw (w1.setCell ⟨db, 17, none⟩ sv) rb (.slice ta tl tc) fail fe (.slice none 0 0) (.slice none 0 0) ∧ (w1.setCell ⟨db, 17, none⟩ sv).ownsRow base' 5 1 (.slice ta tl tc) tl (u8s ts) ∧
      (w1.setCell ⟨db, 17, none⟩ sv).ownsRow base 5 1 sv n ys ∧ Kept (fun k => k = db) w (w1.setCell ⟨db, 17, none⟩ sv) := by
  have k1 : Kept (fun k => k = db) w w1 := .of_below hb
  have k2 : Kept (fun k => k = db) w1 (w1.setCell ⟨db, 17, none⟩ sv) := .set w1 _ _ rfl
  have hne := hD.ne hR
  have d1 : Dc w1 db bv wv mw wr wn (.slice so sl sc) := hD.kept (.of_below (S := fun _ => False) hb) (fun h => h)
  have hlt := hR.lt
  refine ⟨d1.seg sv, hR.kept (k1.trans k2) (fun e => hne e.symm), ownsRow_keep hT (fun g hg => ?_), ownsRow_keep hy (fun g hg => ?_), k1.trans k2⟩
  · exact (k1.trans k2).block g (hT.lt g hg).2 (fun e => hD.apart hT (by rw [hg, e]))
  · exact k2.block g (hy.lt g hg).2 (fun e => d1.apart hy (by rw [hg, e]))

/-- What holds behind ReadAt. -/
theorem after_read {db rb sb : Nat} {bv wv : Value} {mw wr wn : Int} {so : Option Addr} {tv : Value} {fail : Bool} {fe : Addr} {pos n : Int} {sv : Value} {w W w' : World} {g : Nat} {c : Nat} {m : Nat}
    (hdc : Dc W db bv wv mw wr wn sv) (hk : Kept (fun k => k = db) w W) (hL : Logged rb sb tv fail fe pos n W w') (hne : db ≠ rb) (hsv : sv = .slice (some ⟨g, 0, none⟩) m c) (hgd : g ≠ db) (hs : sb = rb ∨ sv.ownBlock = some sb) (hg : so = some ⟨g, 0, none⟩ ∨ w.heap.size ≤ g) :
    ReadBack db rb bv wv mw wr wn so tv fail fe pos n sv w w' := by
  obtain ⟨⟨g1, c1, g2, c2, r, e1, e2, _, _⟩, k⟩ := hL
  have hsb : sb = rb ∨ sb = g := by
    rcases hs with h | h
    · exact .inl h
    · subst hsv; exact .inr (by simpa [Value.ownBlock] using h.symm)
  refine ⟨⟨g1, c1, g2, c2, r, e1, e2⟩, hdc.kept k ?_, ?_⟩
  · rintro (e | e)
    · exact hne e
    · rcases hsb with h | h
      · exact hne (e.trans h)
      · exact hgd (h.symm.trans e.symm)
  · refine ⟨k.os.trans hk.os, k.tape.trans hk.tape, k.output.trans hk.output, Nat.le_trans hk.size k.size, fun j hj hS => ?_⟩
    have h1 : ¬ j = db := fun e => hS (.inl e)
    have h2 : ¬ j = rb := fun e => hS (.inr (.inl e))
    have h3 : ¬ j = sb := by
      intro e
      rcases hsb with h | h
      · exact h2 (e.trans h)
      · rcases hg with h' | h'
        · exact hS (.inr (.inr (by rw [h', e, h]; rfl)))
        · omega
    rw [k.block j (Nat.lt_of_lt_of_le hj hk.size) (by rintro (e | e); exact h2 e; exact h3 e), hk.block j hj h1]

end Go.Proofs.YbulkdyqiFmt
