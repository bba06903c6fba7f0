/-
  STATEMENT LawS6266AWhole: THE WALK of (*partyIndex).reset.
-/
import Derived.Test.YbulkdytaA3
namespace Go.Proofs.Ybulkdyta
open Go.RowKit Go.Maps Go.ChangeMaps Go.MapKept

/-- 'append(s, p)', s the full row S or a row of the call's own. -/
theorem append_any (W : World) (ty : TypeId) (base S n : Nat) (L0 L : List Addr) (v : Value) (hn : L0.length = n)
    (hv : (L = [] ∧ v = .slice (some ⟨S, 0, none⟩) n n ∧ W.ownsRow S 55 1 v n (ptrs L0)) ∨ W.ownsRow base 55 1 v (n + L.length) (ptrs (L0 ++ L))) (hS : S < base) (hb : base ≤ W.heap.size) (hL : n + L.length ≤ 1500)
    (ad p : Addr) (hx : W.cell? ad = some (.pointer (some p))) :
    ∃ g cap w' row, (Builtin.append_ #[54, 54] ty #[v, .slice (some ad) 1 1]).run Yba.prog W = .ok (.slice (some ⟨g, 0, none⟩) (n + L.length + 1) cap) w' ∧
      w'.ownsRow base 55 1 (.slice (some ⟨g, 0, none⟩) (n + L.length + 1) cap) (n + (L ++ [p]).length) (ptrs (L0 ++ (L ++ [p]))) ∧ W.grownBy w' row ∧ (∀ k, row = some k → base ≤ k ∧ ∃ cur, W.heap[k]? = some (.cells cur 55 (0, 0))) := by
  have el : n + (L ++ [p]).length = n + L.length + 1 := by simp; omega
  rw [el]
  rcases hv with ⟨rfl, rfl, hown⟩ | hown
  · obtain ⟨cap, w', hr, h2, h3⟩ := append_full W ty S n L0 hn (by simp at hL; omega) hown (by omega) ad p hx
    refine ⟨_, cap, w', none, hr, ?_, h3, fun k hk => by cases hk⟩
    refine ⟨h2.1, .inr ?_⟩
    rcases h2.2 with ⟨h, _⟩ | ⟨g, c, cur, hv, hb', rest⟩
    · cases h
    · exact ⟨g, c, cur, hv, by omega, rest⟩
  · obtain ⟨i0, hi, hz0, hz1, hz2⟩ := info_parts Yba.info55
    have hnews : ∀ j u, ([.pointer (some p)] : List Value)[j]? = some u → W.cell? (ad.add j) = some u := by
      intro j u hj
      match j, hj with
      | 0, hj => simp at hj; subst hj; simpa [Addr.add] using hx
    obtain ⟨g, cap, w', hr, h2, h3, h4, h5⟩ := run_append_lies (P := Yba.prog) W 54 ty base 55 i0 (.pointer none) 1 8 Yba.underlying54 hi hz0 hz1 hz2 rfl (by decide) _ (n + L.length) (ptrs (L0 ++ L)) hown ad 1 1 [.pointer (some p)] rfl hnews (by simp [Value.oneCell']) (by omega) (by unfold maxLen; omega) (by omega) hb _ rfl
    refine ⟨g, cap, w', _, hr, ?_, h3, fun k hk => ?_⟩
    · rw [← List.append_assoc, ptrs_append]; exact h2
    · rcases hown.2 with ⟨h, _⟩ | ⟨g0, c0, cur, hv, hb', hh, _⟩
      · rw [h] at hk; cases hk
      · rw [hv] at hk
        have : g0 = k := by simpa [Value.ownBlock] using hk
        subst this
        exact ⟨hb', cur, hh⟩

theorem Kept.grown_new {S : Nat → Prop} {w w1 w2 : World} {row : Option Nat} (h : Kept S w w1) (hg : w1.grownBy w2 row) (hr : ∀ k, row = some k → w.heap.size ≤ k ∨ S k) : Kept S w w2 :=
  ⟨hg.os.trans h.os, hg.tape.trans h.tape, hg.output.trans h.output, Nat.le_trans h.size hg.size, fun k hk hs => by
    rw [hg.block k (Nat.lt_of_lt_of_le hk h.size) (fun e => by rcases hr k e.symm with h1 | h1; omega; exact hs h1), h.block k hk hs]⟩
theorem grownBy_setCell (w : World) (a : Addr) (u : Value) : w.grownBy (w.setCell a u) (some a.block) := ⟨rfl, rfl, rfl, by simp, fun k _ hne => Below.heap_setCell _ _ _ _ (fun e => hne (by rw [e]))⟩
theorem own_heap {w : World} {base g q c : Nat} {xs : List Value} (h : w.ownsRow base 55 1 (.slice (some ⟨g, 0, none⟩) q c) q xs) : ∃ cur, w.heap[g]? = some (.cells cur 55 (0, 0)) := by
  rcases h.2 with ⟨h0, _⟩ | ⟨g', c', cur, h0, _, hh, _⟩
  · cases h0
  · simp only [Value.slice.injEq, Option.some.injEq, Addr.mk.injEq, and_true, true_and] at h0
    obtain ⟨rfl, rfl⟩ := h0
    exact ⟨cur, hh⟩
theorem own_not_map {H : Type} {P : Program} {k : TypeId} {R : Value → Option (DataW H × List MemPlace)} {w : World} {M N : Nat} {D : DataW H} {g : Nat} {cur : Array Value} (h : w.ownsMap P k R M N D) (hg : w.heap[g]? = some (.cells cur 55 (0, 0))) : g ≠ M := by
  obtain ⟨es, clock, hb, _⟩ := h
  intro e
  subst e
  rw [hb] at hg
  cases hg
theorem own_cells {w : World} {base g q c : Nat} {L : List Addr} (h : w.ownsRow base 55 1 (.slice (some ⟨g, 0, none⟩) q c) q (ptrs L)) (hq : L.length = q) : ∀ j p, L[j]? = some p → w.cell? ⟨g, j, none⟩ = some (.pointer (some p)) := by
  intro j p hj
  have hlt : j < L.length := (List.getElem?_eq_some_iff.1 hj).1
  rw [h.cellAt j (by omega), ptrs_get, hj]; rfl

/-- The loop of reset under way. -/
structure RS (w : World) (E S M r N n : Nat) (L0 : List Addr) (D : DataW (Option Addr)) (left : Lit → Bool) (cnt : Nat) (v : Value) (L : List Addr) (wr : World) : Prop where
  rg : wr.ranges Yba.prog 9 ptrR M r N D left cnt
  c4 : wr.cell? ⟨E, 4, none⟩ = some v
  f4 : wr.frozen? ⟨E, 4, none⟩ = false
  row : (L = [] ∧ v = .slice (some ⟨S, 0, none⟩) n n ∧ wr.ownsRow S 55 1 v n (ptrs L0)) ∨ (L ≠ [] ∧ wr.ownsRow (w.heap.size + 1) 55 1 v (n + L.length) (ptrs (L0 ++ L)))
  nd : L.Nodup
  mem : ∀ p, p ∈ L ↔ ∃ kl, left kl = false ∧ Maps.has D kl = true ∧ ∀ zd, D.atKey kl zd = .held (some p)
  len : L.length + cnt ≤ N
  kept : Kept (· = E) w wr
  keptE : ∀ o, o ≠ 4 → wr.cell? ⟨E, o, none⟩ = w.cell? ⟨E, o, none⟩
  fzE : ∀ o, wr.frozen? ⟨E, o, none⟩ = w.frozen? ⟨E, o, none⟩

theorem RS.form {w wr : World} {E S M r N n : Nat} {L0 L : List Addr} {D : DataW (Option Addr)} {left : Lit → Bool} {cnt : Nat} {v : Value} (h : RS w E S M r N n L0 D left cnt v L wr) (hn : L0.length = n) :
    ∃ a c, v = .slice (some ⟨a, 0, none⟩) (n + L.length) c ∧ (∃ cur, wr.heap[a]? = some (.cells cur 55 (0, 0))) ∧ (a = S ∨ w.heap.size + 1 ≤ a) ∧ (∀ j p, (L0 ++ L)[j]? = some p → wr.cell? ⟨a, j, none⟩ = some (.pointer (some p))) := by
  rcases h.row with ⟨rfl, rfl, ho⟩ | ⟨hne, ho⟩
  · exact ⟨S, n, rfl, own_heap ho, .inl rfl, by rw [List.append_nil]; exact own_cells ho hn⟩
  · have hpos : 0 < L.length := List.length_pos_iff.2 hne
    obtain ⟨g, c, rfl, hb, _⟩ := ho.form (by omega)
    exact ⟨g, c, rfl, own_heap ho, .inr hb, own_cells ho (by simp [hn])⟩

/-- What reset leaves. -/
def Reset (w : World) (E M N n : Nat) (L0 : List Addr) (D : DataW (Option Addr)) (e : Ending) (w' : World) : Prop :=
  ∃ a q c L, e = .returned (.tuple #[]) ∧ w'.cell? ⟨E, 4, none⟩ = some (.slice (some ⟨a, 0, none⟩) q c) ∧ q = n + L.length ∧ (∀ j p, (L0 ++ L)[j]? = some p → w'.cell? ⟨a, j, none⟩ = some (.pointer (some p))) ∧ a ≠ E ∧ a ≠ M ∧
    L.Nodup ∧ (∀ p, p ∈ L ↔ ∃ kl, Maps.has D kl = true ∧ ∀ zd, D.atKey kl zd = .held (some p)) ∧ w'.ownsMap Yba.prog 9 ptrR M N (.map []) ∧ Kept (fun k => k = E ∨ k = M) w w' ∧
    (∀ o, o ≠ 4 → w'.cell? ⟨E, o, none⟩ = w.cell? ⟨E, o, none⟩) ∧ (∀ o, w'.frozen? ⟨E, o, none⟩ = w.frozen? ⟨E, o, none⟩)

set_option maxHeartbeats 1000000 in
set_option maxRecDepth 100000 in
theorem reset_some (E S M N n : Nat) (L0 : List Addr) (D : DataW (Option Addr)) (w : World) (h3 : w.cell? ⟨E, 3, none⟩ = some (.map (some M))) (h4 : w.cell? ⟨E, 4, none⟩ = some (.slice (some ⟨S, 0, none⟩) n n)) (f4 : w.frozen? ⟨E, 4, none⟩ = false)
    (hown : w.ownsMap Yba.prog 9 ptrR M N D) (hS : w.ownsRow S 55 1 (.slice (some ⟨S, 0, none⟩) n n) n (ptrs L0)) (hn : L0.length = n) (hN : N ≤ 1024) (hn2 : n ≤ 255) (hES : E ≠ S) (hEM : E ≠ M)
    (hinj : ∀ k1 k2 p, (∀ zd, D.atKey k1 zd = .held (some p)) → (∀ zd, D.atKey k2 zd = .held (some p)) → k1 = k2) :
    Calls Yba.prog 13 #[.pointer (some ⟨E, 3, none⟩)] w fun e w' => Reset w E M N n L0 D e w' := by
  have hElt : E < w.heap.size := World.block_lt_of_cell? w _ h3
  go_enter Yba.func13, Yba.ntmps13
  go_wp2_with (at_range; refine wpList_range_own _ rfl _ 53 rfl 9 55 key9 Yba.underlying53 ptrR M N D rfl hown ?_; intro w0 hrg0 hg0 hs0)
  go_frame
  have k0 : Kept (· = E) w w0 := Kept.of_grown hg0 (fun k hk => by cases hk)
  have c0 : ∀ o, w0.cell? ⟨E, o, none⟩ = w.cell? ⟨E, o, none⟩ := fun o => hg0.cell_far _ hElt (by simp)
  have z0 : ∀ o, w0.frozen? ⟨E, o, none⟩ = w.frozen? ⟨E, o, none⟩ := fun o => hg0.frozen_far _ hElt (by simp)
  have hR0 : RS w E S M w.heap.size N n L0 D (Maps.has D) (Maps.size D) (.slice (some ⟨S, 0, none⟩) n n) [] w0 :=
    ⟨hrg0, by rw [c0]; exact h4, by rw [z0]; exact f4, .inl ⟨rfl, rfl, hS.kept hg0 (.inr (by simp [Value.ownBlock]))⟩, List.nodup_nil, fun p => ⟨(fun h => by cases h), (fun ⟨kl, h1, h2, _⟩ => by rw [h1] at h2; cases h2)⟩, by simpa using hown.size_le, k0, fun o _ => c0 o, z0⟩
  clear k0 c0 z0 hrg0 hg0
  go_loopw [3] (fun _ wr => ∃ left cnt v L, RS w E S M w.heap.size N n L0 D left cnt v L wr) (fun _ wr => wr.rangeLeft M w.heap.size)
  case atStart => exact ⟨_, _, _, _, hR0⟩
  case round =>
    obtain ⟨left, cnt, v, L, hr⟩ := hrel
    go_wp2_with (at_next; refine wpList_next_ranges _ rfl _ rfl 9 key9 ptrR Value.string Value.pointer (fun key kl h => key9_inv h) (fun v y h => by obtain ⟨q, rfl, _⟩ := ptrR_inv h; exact ⟨q, rfl⟩) M w.heap.size N D left cnt rfl hr.rg ?_ ?_)
    · intro _ hl0
      obtain ⟨w9, hcl, hown9, hg9⟩ := run_clear_own hr.rg.owns Yba.underlying53
      have e3 : wr.cell? ⟨E, 3, none⟩ = some (.map (some M)) := by rw [hr.keptE 3 (by omega)]; exact h3
      go_wp2
      go_end0
      have hw9 : Kept (fun k => k = E ∨ k = M) w w9 := (hr.kept.mono (fun k hk => .inl hk)).trans (Kept.of_grown hg9 (fun k hk => .inr (by simpa using hk.symm)))
      have hElt9 : E < wr.heap.size := Nat.lt_of_lt_of_le hElt hr.kept.size
      have c9 : ∀ o, w9.cell? ⟨E, o, none⟩ = wr.cell? ⟨E, o, none⟩ := fun o => hg9.cell_far _ hElt9 (by simpa using hEM)
      have z9 : ∀ o, w9.frozen? ⟨E, o, none⟩ = wr.frozen? ⟨E, o, none⟩ := fun o => hg9.frozen_far _ hElt9 (by simpa using hEM)
      have hmem : ∀ p, p ∈ L ↔ ∃ kl, Maps.has D kl = true ∧ ∀ zd, D.atKey kl zd = .held (some p) := fun p => by
        rw [hr.mem p]
        exact ⟨fun ⟨kl, _, h2, h3⟩ => ⟨kl, h2, h3⟩, fun ⟨kl, h2, h3⟩ => ⟨kl, hl0 kl, h2, h3⟩⟩
      obtain ⟨a, c, hv, ⟨cur, hcur⟩, ha, hc⟩ := hr.form hn
      have haM : a ≠ M := own_not_map hr.rg.owns hcur
      have haE : a ≠ E := by
        rcases ha with rfl | ha
        · exact fun e => hES e.symm
        · omega
      refine ⟨a, n + L.length, c, L, rfl, by rw [c9, hr.c4, hv], rfl, fun j p hj => ?_, haE, haM, hr.nd, hmem, hown9, hw9, fun o ho => by rw [c9, hr.keptE o ho], fun o => by rw [z9, hr.fzE o]⟩
      have h1 := hc j p hj
      rw [hg9.cell_far _ (World.block_lt_of_cell? wr _ h1) (by simpa using haM)]; exact h1
    · intro s c kl y1 y2 w1 cnt1 hkey hlk hR hat hrg1 hlt hg1 hs1 hen
      obtain ⟨q, hq, hy⟩ := ptrR_inv hR
      obtain rfl : c = q := by simpa using hq
      obtain ⟨rfl, rfl⟩ : y1 = .held c ∧ y2 = [] := by simpa using hy
      have hElt1 : E < wr.heap.size := Nat.lt_of_lt_of_le hElt hr.kept.size
      have c1 : ∀ o, w1.cell? ⟨E, o, none⟩ = wr.cell? ⟨E, o, none⟩ := fun o => hg1.cell_far _ hElt1 (by simp; omega)
      have z1 : ∀ o, w1.frozen? ⟨E, o, none⟩ = wr.frozen? ⟨E, o, none⟩ := fun o => hg1.frozen_far _ hElt1 (by simp; omega)
      have kw1 : Kept (· = E) w w1 := hr.kept.grown_new hg1 (fun k hk => .inl (by simp at hk; omega))
      obtain ⟨a, ca, hv, ⟨cur, hcur⟩, ha, hc⟩ := hr.form hn
      have har : a ≠ w.heap.size := by
        rcases ha with rfl | ha
        · have := (hS.lt a rfl).2; omega
        · omega
      have row1 : (L = [] ∧ v = .slice (some ⟨S, 0, none⟩) n n ∧ w1.ownsRow S 55 1 v n (ptrs L0)) ∨ (L ≠ [] ∧ w1.ownsRow (w.heap.size + 1) 55 1 v (n + L.length) (ptrs (L0 ++ L))) := by
        have hob : v.ownBlock = some a := by rw [hv]; rfl
        rcases hr.row with ⟨h1, h2, h3⟩ | ⟨h1, h3⟩
        · exact .inl ⟨h1, h2, h3.kept hg1 (.inr (by rw [hob]; simpa using har))⟩
        · exact .inr ⟨h1, h3.kept hg1 (.inr (by rw [hob]; simpa using har))⟩
      have e4 : w1.cell? ⟨E, 4, none⟩ = some v := by rw [c1]; exact hr.c4
      have g4 : w1.frozen? ⟨E, 4, none⟩ = false := by rw [z1]; exact hr.f4
      have hsame : ∀ kl', (!kl'.sameKey kl) = false → kl' = kl := fun kl' h => Classical.byContradiction fun hd => by
        rw [sameKey_ne hd] at h; cases h
      have hself : kl.sameKey kl = true := WideAt.sameKey_self (key9.key hkey)
      cases c with
      | none =>
        have hR1 : RS w E S M w.heap.size N n L0 D (fun z => left z && !z.sameKey kl) cnt1 v L w1 := by
          refine ⟨hrg1, e4, g4, row1, hr.nd, fun p => ?_, by have := hr.len; omega, kw1, fun o ho => by rw [c1, hr.keptE o ho], fun o => by rw [z1, hr.fzE o]⟩
          rw [hr.mem p]
          refine ⟨fun ⟨k', h1, h2, h3⟩ => ⟨k', by simp [h1], h2, h3⟩, fun ⟨k', h1, h2, h3⟩ => ⟨k', ?_, h2, h3⟩⟩
          cases hl : left k' with
          | false => rfl
          | true =>
            simp only [hl, Bool.true_and] at h1
            obtain rfl := hsame k' h1
            have := (h3 .nil).symm.trans (hat .nil)
            cases this
        have hmm : w1.rangeLeft M w.heap.size < wr.rangeLeft M w.heap.size := by rw [hrg1.left_eq, hr.rg.left_eq]; exact hlt
        clear hr hrg1 hg1 row1 hR hq hy hkey
        go_wp2
        exact ⟨⟨_, _, _, _, hR1⟩, hmm⟩
      | some p =>
        obtain ⟨g, cap, w2, row, hap, hown2, hg2, hrow2⟩ := append_any (w1.alloc (.cells #[.pointer (some p)] 55)) 54 (w.heap.size + 1) S n L0 L v hn
          (row1.elim (fun h => .inl ⟨h.1, h.2.1, h.2.2.alloc _⟩) (fun h => .inr (h.2.alloc _))) (by have := (hS.lt S rfl).2; omega) (by have := kw1.size; have := hrg1.lt; simp; omega) (by have := hr.len; omega) ⟨w1.heap.size, 0, none⟩ p (World.cell?_alloc_at _ _ _ _ rfl)
        rw [hv] at hap e4
        have hElt2 : E < (w1.alloc (.cells #[.pointer (some p)] 55)).heap.size := by have := kw1.size; simp; omega
        have hEr : some E ≠ row := fun e => by have := (hrow2 E e.symm).1; omega
        have c2 : ∀ o, w2.cell? ⟨E, o, none⟩ = w1.cell? ⟨E, o, none⟩ := fun o => by
          rw [hg2.cell_far _ hElt2 hEr]
          exact (World.grownBy_alloc w1 (.cells #[.pointer (some p)] 55) none).cell_far _ (by have := kw1.size; show E < w1.heap.size; omega) (by simp)
        have z2 : ∀ o, w2.frozen? ⟨E, o, none⟩ = w1.frozen? ⟨E, o, none⟩ := fun o => by
          rw [hg2.frozen_far _ hElt2 hEr]
          exact (World.grownBy_alloc w1 (.cells #[.pointer (some p)] 55) none).frozen_far _ (by have := kw1.size; show E < w1.heap.size; omega) (by simp)
        have e42 : w2.cell? ⟨E, 4, none⟩ = some (.slice (some ⟨a, 0, none⟩) (n + L.length) ca) := by rw [c2]; exact e4
        have g42 : w2.frozen? ⟨E, 4, none⟩ = false := by rw [z2]; exact g4
        have hR1 : RS w E S M w.heap.size N n L0 D (fun z => left z && !z.sameKey kl) cnt1 (.slice (some ⟨g, 0, none⟩) (n + L.length + 1) cap) (L ++ [p]) (w2.setCell ⟨E, 4, none⟩ (.slice (some ⟨g, 0, none⟩) (n + L.length + 1) cap)) := by
          refine ⟨?_, World.cell?_setCell_same _ _ _ e42, by rw [World.frozen?_setCell]; exact g42, .inr ⟨by simp, ?_⟩, ?_, fun p' => ?_, by have := hr.len; simp; omega, ?_, fun o ho => ?_, fun o => ?_⟩
          · refine ((hrg1.alloc _).kept hg2 (fun e => ?_) (fun e => ?_)).kept (grownBy_setCell w2 _ _) (by simpa using fun e => hEM e.symm) (by simp; omega)
            · obtain ⟨_, cur2, hc2⟩ := hrow2 M e.symm
              exact own_not_map (hrg1.alloc (.cells #[.pointer (some p)] 55)).owns hc2 rfl
            · have := (hrow2 _ e.symm).1; omega
          · exact hown2.kept (grownBy_setCell w2 _ _) (.inr (by
              have := (hown2.lt g rfl).1
              simp [Value.ownBlock]; omega))
          · refine List.nodup_append.2 ⟨hr.nd, by simp, fun x hx y hy => ?_⟩
            obtain rfl : y = p := by simpa using hy
            intro e
            subst e
            obtain ⟨k', h1, h2, h3⟩ := (hr.mem x).1 hx
            obtain rfl := hinj k' kl x h3 hat
            rw [h1] at hlk; cases hlk
          · rw [List.mem_append, hr.mem p']
            constructor
            · rintro (⟨k', h1, h2, h3⟩ | hp')
              · exact ⟨k', by simp [h1], h2, h3⟩
              · obtain rfl : p' = p := by simpa using hp'
                exact ⟨kl, by simp [hself], has_true_of_atKey hat, hat⟩
            · rintro ⟨k', h1, h2, h3⟩
              cases hl : left k' with
              | false => exact .inl ⟨k', hl, h2, h3⟩
              | true =>
                simp only [hl, Bool.true_and] at h1
                obtain rfl := hsame k' h1
                have := (h3 .nil).symm.trans (hat .nil)
                simp only [DataW.held.injEq, Option.some.injEq] at this
                exact .inr (by simp [this])
          · exact ((kw1.trans (Kept.alloc _ _ _)).grown_new hg2 (fun k hk => .inl (by have := (hrow2 k hk).1; omega))).grown_new (grownBy_setCell w2 _ _) (fun k hk => .inr (by simpa using hk.symm))
          · rw [World.cell?_setCell_other (h := fun e => ho (by simpa using (congrArg Addr.off e).symm)), c2, c1, hr.keptE o ho]
          · rw [World.frozen?_setCell, z2, z1, hr.fzE o]
        have hmm : (w2.setCell ⟨E, 4, none⟩ (.slice (some ⟨g, 0, none⟩) (n + L.length + 1) cap)).rangeLeft M w.heap.size < wr.rangeLeft M w.heap.size := by rw [hR1.rg.left_eq, hr.rg.left_eq]; exact hlt
        clear hs1 c1 z1 c2 z2 hr hrg1 hg1 row1 hR hq hy hkey hown2 hg2 hrow2 hc hcur
        go_wp2_with (at_builtin; refine Lib.wpList_append_run _ rfl _ _ _ _ rfl _ _ rfl rfl _ _ hap ?_)
        exact ⟨⟨_, _, _, _, hR1⟩, hmm⟩
end Go.Proofs.Ybulkdyta
