/-
  STATEMENT LawS6266AWhole: THE MAP BY NAME, AND THE LIVE INDEXES.
-/
import Derived.Test.YbulkdytaA6
namespace Go.Proofs.Ybulkdyta
open Go.RowKit Go.Maps Go.ChangeMaps Go.MapKept

/-- The map by name behind some rounds. -/
structure Nam (w0 : World) (M k : Nat) (D : DataW (Option Addr)) (Lv : List Addr) (wr : World) : Prop where
  map : wr.ownsMap Yba.prog 9 ptrR M k D
  inj : ∀ k1 k2 p, (∀ zd, D.atKey k1 zd = .held (some p)) → (∀ zd, D.atKey k2 zd = .held (some p)) → k1 = k2
  mem : ∀ p, p ∈ Lv ↔ ∃ kl, Maps.has D kl = true ∧ ∀ zd, D.atKey kl zd = .held (some p)
  nd : Lv.Nodup
  at0 : ∀ p, p ∈ Lv → (∃ cs, wr.heap[p.block]? = some (.cells cs 59 (0, 0))) ∧ w0.heap.size ≤ p.block
  len : Lv.length ≤ k
  kept : Kept (· = M) w0 wr

theorem Nam.start (w : World) : Nam (w.alloc (.map #[] 0)) w.heap.size 0 (.map []) [] (w.alloc (.map #[] 0)) :=
  ⟨World.ownsMap_made _ _ _ _, (fun k1 k2 p h => by have := h .nil; cases this), fun p => ⟨(fun h => by cases h), (fun ⟨kl, h, _⟩ => by cases h)⟩, List.nodup_nil, (fun p h => by cases h), Nat.le_refl _, Kept.refl _ _⟩

theorem Nam.more {w0 wr : World} {M k : Nat} {D : DataW (Option Addr)} {Lv : List Addr} (h : Nam w0 M k D Lv wr) : Nam w0 M (k + 1) D Lv wr :=
  ⟨h.map.mono (by omega), h.inj, h.mem, h.nd, h.at0, by have := h.len; omega, h.kept⟩

theorem Nam.put_none {w0 wr w1 : World} {M k : Nat} {D : DataW (Option Addr)} {Lv : List Addr} {kl : Lit} (h : Nam w0 M k D Lv wr) (hkl : WideAt.IsKeyLit kl) (hno : Maps.has D kl = false)
    (hm : w1.ownsMap Yba.prog 9 ptrR M (k + 1) (D.put kl (.held none))) (hg : wr.grownBy w1 (some M)) : Nam w0 M (k + 1) (D.put kl (.held none)) Lv w1 := by
  have hk : ∀ k1 p, (∀ zd, (D.put kl (.held none)).atKey k1 zd = .held (some p)) → k1 ≠ kl ∧ ∀ zd, D.atKey k1 zd = .held (some p) := by
    intro k1 p h1
    have hne : k1 ≠ kl := fun e => by
      subst e
      have := h1 .nil
      rw [atKey_put_same h.map.isMap hkl] at this
      cases this
    exact ⟨hne, fun zd => by rw [← atKey_put_other hne (.held none) zd]; exact h1 zd⟩
  refine ⟨hm, fun k1 k2 p h1 h2 => h.inj k1 k2 p (hk k1 p h1).2 (hk k2 p h2).2, fun p => ?_, h.nd, fun p hp => ⟨?_, (h.at0 p hp).2⟩, by have := h.len; omega, h.kept.grown_new hg (fun j hj => .inr (by simpa using hj.symm))⟩
  · rw [h.mem p]
    constructor
    · rintro ⟨k', h1, h2⟩
      have hne : k' ≠ kl := fun e => by subst e; rw [hno] at h1; cases h1
      exact ⟨k', by rw [has_put_other hne]; exact h1, fun zd => by rw [atKey_put_other hne]; exact h2 zd⟩
    · rintro ⟨k', h1, h2⟩
      obtain ⟨hne, h3⟩ := hk k' p h2
      exact ⟨k', has_true_of_atKey h3, h3⟩
  · obtain ⟨cs, hcs⟩ := (h.at0 p hp).1
    refine ⟨cs, ?_⟩
    have hlt : p.block < wr.heap.size := by
      rcases Nat.lt_or_ge p.block wr.heap.size with hlt | hge
      · exact hlt
      · rw [Array.getElem?_eq_none hge] at hcs; cases hcs
    rw [hg.block _ hlt (fun e => ?_)]; exact hcs
    obtain ⟨es, cl, hb, _⟩ := h.map
    have e' : p.block = M := by simpa using e
    rw [e', hb] at hcs; cases hcs

theorem Nam.put_some {w0 wr w1 : World} {M k : Nat} {D : DataW (Option Addr)} {Lv : List Addr} {kl : Lit} {p0 : Addr} {cs0 : Array Value} (h : Nam w0 M k D Lv wr) (hkl : WideAt.IsKeyLit kl) (hno : Maps.has D kl = false) (hp0 : p0 ∉ Lv) (hp1 : w0.heap.size ≤ p0.block)
    (hc0 : w1.heap[p0.block]? = some (.cells cs0 59 (0, 0))) (hm : w1.ownsMap Yba.prog 9 ptrR M (k + 1) (D.put kl (.held (some p0)))) (hk1 : Kept (· = M) w0 w1) (hold : ∀ p, p ∈ Lv → ∃ cs, w1.heap[p.block]? = some (.cells cs 59 (0, 0))) :
    Nam w0 M (k + 1) (D.put kl (.held (some p0))) (Lv ++ [p0]) w1 := by
  have hk : ∀ k1 p, (∀ zd, (D.put kl (.held (some p0))).atKey k1 zd = .held (some p)) → (k1 = kl ∧ p = p0) ∨ (k1 ≠ kl ∧ ∀ zd, D.atKey k1 zd = .held (some p)) := by
    intro k1 p h1
    by_cases hne : k1 = kl
    · subst hne
      have := h1 .nil
      rw [atKey_put_same h.map.isMap hkl] at this
      simp only [DataW.held.injEq, Option.some.injEq] at this
      exact .inl ⟨rfl, this.symm⟩
    · exact .inr ⟨hne, fun zd => by rw [← atKey_put_other hne (.held (some p0)) zd]; exact h1 zd⟩
  refine ⟨hm, fun k1 k2 p h1 h2 => ?_, fun p => ?_, ?_, fun p hp => ?_, by have := h.len; simp; omega, hk1⟩
  · rcases hk k1 p h1 with ⟨rfl, rfl⟩ | ⟨hn1, h3⟩
    · rcases hk k2 p h2 with ⟨rfl, _⟩ | ⟨hn2, h4⟩
      · rfl
      · exact absurd ((h.mem p).2 ⟨k2, has_true_of_atKey h4, h4⟩) hp0
    · rcases hk k2 p h2 with ⟨rfl, rfl⟩ | ⟨hn2, h4⟩
      · exact absurd ((h.mem p).2 ⟨k1, has_true_of_atKey h3, h3⟩) hp0
      · exact h.inj k1 k2 p h3 h4
  · rw [List.mem_append, h.mem p]
    constructor
    · rintro (⟨k', h1, h2⟩ | hp)
      · have hne : k' ≠ kl := fun e => by subst e; rw [hno] at h1; cases h1
        exact ⟨k', by rw [has_put_other hne]; exact h1, fun zd => by rw [atKey_put_other hne]; exact h2 zd⟩
      · obtain rfl : p = p0 := by simpa using hp
        exact ⟨kl, has_put_same h.map.isMap hkl _, fun zd => atKey_put_same h.map.isMap hkl _ _⟩
    · rintro ⟨k', h1, h2⟩
      rcases hk k' p h2 with ⟨_, rfl⟩ | ⟨hne, h3⟩
      · exact .inr (by simp)
      · exact .inl ⟨k', has_true_of_atKey h3, h3⟩
  · refine List.nodup_append.2 ⟨h.nd, by simp, fun x hx y hy => ?_⟩
    obtain rfl : y = p0 := by simpa using hy
    exact fun e => hp0 (by rw [← e]; exact hx)
  · rcases List.mem_append.1 hp with hp | hp
    · exact ⟨hold p hp, (h.at0 p hp).2⟩
    · obtain rfl : p = p0 := by simpa using hp
      exact ⟨⟨cs0, hc0⟩, hp1⟩

theorem own_ne {H : Type} {R : Value → Option (DataW H × List MemPlace)} {w : World} {base n M N : Nat} {v : Value} {xs : List Value} {D : DataW H} (h : w.ownsRow base 55 1 v n xs) (hm : w.ownsMap Yba.prog 9 R M N D) : v.ownBlock = none ∨ v.ownBlock ≠ some M := by
  rcases h.2 with ⟨rfl, _⟩ | ⟨g, c, cur, rfl, _, hh, _⟩
  · exact .inl rfl
  · exact .inr (fun e => own_not_map hm hh (by simpa [Value.ownBlock] using e))

theorem Nam.live {w0 wr : World} {M k cL : Nat} {D : DataW (Option Addr)} {Lv : List Addr} {pL : Option Addr} {kl : Lit} (h : Nam w0 M k D Lv wr) (hR : wr.ownsRow w0.heap.size 55 1 (.slice pL Lv.length cL) Lv.length (ptrs Lv)) (hMw : M < w0.heap.size) (hk : k ≤ 1024)
    (hkl : WideAt.IsKeyLit kl) (hno : Maps.has D kl = false) (cs0 : Array Value) :
    ∃ g cap w2, (Builtin.append_ #[54, 54] 54 #[.slice pL Lv.length cL, .slice (some ⟨wr.heap.size + 1, 0, none⟩) 1 1]).run Yba.prog ((wr.alloc (.cells cs0 59)).alloc (.cells #[.pointer (some ⟨wr.heap.size, 0, none⟩)] 55)) = .ok (.slice (some ⟨g, 0, none⟩) (Lv.length + 1) cap) w2 ∧
      w2.ownsMap Yba.prog 9 ptrR M k D ∧ ∀ w3, w3.ownsMap Yba.prog 9 ptrR M (k + 1) (D.put kl (.held (some ⟨wr.heap.size, 0, none⟩))) → w2.grownBy w3 (some M) →
        Nam w0 M (k + 1) (D.put kl (.held (some ⟨wr.heap.size, 0, none⟩))) (Lv ++ [⟨wr.heap.size, 0, none⟩]) w3 ∧ w3.ownsRow w0.heap.size 55 1 (.slice (some ⟨g, 0, none⟩) (Lv.length + 1) cap) (Lv.length + 1) (ptrs (Lv ++ [⟨wr.heap.size, 0, none⟩])) := by
  obtain ⟨i0, hi, hz0, hz1, hz2⟩ := info_parts Yba.info55
  have hlen := h.len
  have hws := h.kept.size
  have hx : ((wr.alloc (.cells cs0 59)).alloc (.cells #[.pointer (some ⟨wr.heap.size, 0, none⟩)] 55)).cell? ⟨wr.heap.size + 1, 0, none⟩ = some (.pointer (some ⟨wr.heap.size, 0, none⟩)) := by
    rw [World.cell?_alloc_at _ _ _ _ (by simp)]; rfl
  have hnews : ∀ j u, ([.pointer (some ⟨wr.heap.size, 0, none⟩)] : List Value)[j]? = some u → ((wr.alloc (.cells cs0 59)).alloc (.cells #[.pointer (some ⟨wr.heap.size, 0, none⟩)] 55)).cell? ((⟨wr.heap.size + 1, 0, none⟩ : Addr).add j) = some u := by
    intro j u hj
    match j, hj with
    | 0, hj => simp at hj; subst hj; simp [Addr.add, hx]
  obtain ⟨g, cap, w2, hr, h2, h3, _, _⟩ := run_append_lies (P := Yba.prog) ((wr.alloc (.cells cs0 59)).alloc (.cells #[.pointer (some ⟨wr.heap.size, 0, none⟩)] 55)) 54 54 w0.heap.size 55 i0 (.pointer none) 1 8 Yba.underlying54 hi hz0 hz1 hz2 rfl (by decide) _ Lv.length (ptrs Lv) ((hR.alloc _).alloc _) ⟨wr.heap.size + 1, 0, none⟩ 1 1 [.pointer (some ⟨wr.heap.size, 0, none⟩)] rfl hnews (by simp [Value.oneCell']) (by omega) (by unfold maxLen; omega) (by omega) (by simp; omega) _ rfl
  have hm2 := ((h.map.alloc (.cells cs0 59)).alloc (.cells #[.pointer (some ⟨wr.heap.size, 0, none⟩)] 55))
  have hrow : some M ≠ (Value.slice pL Lv.length cL).ownBlock := fun e => by
    rcases own_ne hR h.map with h1 | h1
    · rw [h1] at e; cases e
    · exact h1 e.symm
  have hrl : ∀ j, (Value.slice pL Lv.length cL).ownBlock = some j → w0.heap.size ≤ j ∧ j < wr.heap.size := fun j hj => hR.lt j hj
  refine ⟨g, cap, w2, hr, hm2.kept h3 hrow, fun w3 hm3 hg3 => ⟨?_, ?_⟩⟩
  · have hblk : ∀ j, j < wr.heap.size + 2 → some j ≠ (Value.slice pL Lv.length cL).ownBlock → j ≠ M → w3.heap[j]? = ((wr.alloc (.cells cs0 59)).alloc (.cells #[.pointer (some ⟨wr.heap.size, 0, none⟩)] 55)).heap[j]? := fun j hj h1 h2 => by
      rw [hg3.block j (Nat.lt_of_lt_of_le (by simp; omega) h3.size) (by simpa using h2), h3.block j (by simp; omega) h1]
    refine h.put_some hkl hno (fun hp => ?_) (by show w0.heap.size ≤ wr.heap.size; omega) (cs0 := cs0) ?_ hm3 ?_ (fun p hp => ?_)
    · obtain ⟨cs, hcs⟩ := (h.at0 _ hp).1
      rw [Array.getElem?_eq_none (Nat.le_refl _)] at hcs; cases hcs
    · show w3.heap[wr.heap.size]? = _
      rw [hblk _ (by omega) (fun e => by have := (hrl _ e.symm).2; omega) (by omega), (World.grownBy_alloc (wr.alloc (.cells cs0 59)) _ none).block _ (by simp) (by simp)]
      exact heap_alloc_new _ _
    · exact (((h.kept.trans (Kept.alloc _ _ _)).trans (Kept.alloc _ _ _)).grown_new h3 (fun j hj => .inl (hrl j hj).1)).grown_new hg3 (fun j hj => .inr (by simpa using hj.symm))
    · obtain ⟨cs, hcs⟩ := (h.at0 p hp).1
      have hlt : p.block < wr.heap.size := by
        rcases Nat.lt_or_ge p.block wr.heap.size with hlt | hge
        · exact hlt
        · rw [Array.getElem?_eq_none hge] at hcs; cases hcs
      refine ⟨cs, ?_⟩
      rw [hblk _ (by omega) (fun e => ?_) (by have := (h.at0 p hp).2; omega), (World.grownBy_alloc (wr.alloc (.cells cs0 59)) _ none).block _ (by simp; omega) (by simp), (World.grownBy_alloc wr _ none).block _ hlt (by simp)]
      · exact hcs
      · rcases hR.2 with ⟨h0, _⟩ | ⟨g', c', cur, h0, _, hh, _⟩
        · rw [h0] at e; cases e
        · rw [h0] at e
          have e' : p.block = g' := by simpa [Value.ownBlock] using e
          rw [e', hh] at hcs
          simp at hcs
  · have := h2.kept hg3 (.inr (by
      rcases h2.2 with ⟨h0, _⟩ | ⟨g', c', cur, h0, _, hh, _⟩
      · cases h0
      · simp only [Value.slice.injEq, Option.some.injEq, Addr.mk.injEq, and_true, true_and] at h0
        obtain ⟨rfl, rfl⟩ := h0
        exact fun e => own_not_map (hm2.kept h3 hrow) hh (by simpa [Value.ownBlock] using e)))
    rw [ptrs_append]; exact this

end Go.Proofs.Ybulkdyta
