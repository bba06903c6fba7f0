/-
  THE WALK of '(*bitWriter).add'.
-/
import Derived.Test.YbulkdyqiPad
import Derived.Test.YbulkdyqiBits
import Derived.Deep.RegionLawGrows
namespace Go.Proofs.Ybulkdyqi
open Go.RowKit Plain

theorem ownsRow_base {w : World} {base base' : Nat} {e : TypeId} {size : Nat} {v : Value} {n : Nat} {xs : List Value} (h : w.ownsRow base e size v n xs) (hb : base' ≤ base) : w.ownsRow base' e size v n xs := by
  obtain ⟨h1, h2⟩ := h
  refine ⟨h1, ?_⟩
  rcases h2 with h2 | ⟨g, cap, cur, rfl, hbg, hr⟩
  · exact .inl h2
  · exact .inr ⟨g, cap, cur, rfl, by omega, hr⟩

/-- append of one byte on a row of the call's own: AND WHERE THE NEW ROW LIES. -/
theorem run_append_fresh (w : World) (base : Nat) (ty : TypeId) (v : Value) (zs : List Int) (hown : w.ownsRow base 5 1 v zs.length (u8s zs)) (hbase : base ≤ w.heap.size)
    (ad : Addr) (b : Int) (hnew : w.cell? ad = some (.int .u8 b)) (hl : zs.length ≤ 2000000) :
    ∃ g cap w', (Builtin.append_ #[22, 22] ty #[v, .slice (some ad) 1 1]).run Yba.prog w = .ok (.slice (some ⟨g, 0, none⟩) (zs.length + 1) cap) w' ∧
      w'.ownsRow base 5 1 (.slice (some ⟨g, 0, none⟩) (zs.length + 1) cap) (zs.length + 1) (u8s (zs ++ [b])) ∧ w.grownBy w' v.ownBlock ∧ (v.ownBlock = some g ∨ w.heap.size ≤ g) := by
  obtain ⟨i0, hi, hz0, hz1, hz2⟩ := info_parts Yba.info5
  have hc : ∀ j u, ([.int .u8 b] : List Value)[j]? = some u → w.cell? (ad.add j) = some u := by
    intro j u hj
    match j, hj with
    | 0, hj => simp at hj; subst hj; simpa [Addr.add] using hnew
  have h1 : ∀ u ∈ ([.int .u8 b] : List Value), u.oneCell' = true := by simp [Value.oneCell']
  have hm : zs.length + 1 ≤ maxLen := by unfold maxLen; omega
  have eb : u8s (zs ++ [b]) = u8s zs ++ [.int .u8 b] := by rw [u8s_append]; rfl
  have shape : ∀ {w' : World} {base' : Nat} {v' : Value} {xs : List Value}, w'.ownsRow base' 5 1 v' (zs.length + 1) xs → ∃ g cap, v' = .slice (some ⟨g, 0, none⟩) (zs.length + 1) cap ∧ base' ≤ g := by
    intro w' base' v' xs h
    rcases h.2 with ⟨_, h0⟩ | ⟨g, cap, _, h0, hb, _⟩
    · omega
    · exact ⟨g, cap, h0, hb⟩
  rcases hown.2 with ⟨hv, hn⟩ | ⟨g, cap, cur, hv, hbg, hg, hnc, hcm, hcs, htake⟩
  · have hz : zs = [] := List.eq_nil_of_length_eq_zero hn
    subst hz
    subst hv
    obtain ⟨v', w', hrun, r1, r2, _⟩ := run_append_own (P := Yba.prog) w w.heap.size 22 ty 5 i0 (.int .u8 0) 1 1 Yba.underlying22 hi hz0 hz1 hz2 rfl (by decide) (.slice none 0 0) 0 [] (World.ownsRow_nil w _ 5 1) ad 1 1 [.int .u8 b] rfl hc h1 hm (by omega) (Nat.le_refl _)
    obtain ⟨g, cap, rfl, hg⟩ := shape r1
    exact ⟨g, cap, w', hrun, by rw [eb]; exact ownsRow_base r1 hbase, r2, .inr hg⟩
  · by_cases hr : zs.length + 1 ≤ cap
    · subst hv
      obtain ⟨w', hrun, r1, r2⟩ := run_append_fits (P := Yba.prog) w base 22 ty 5 i0 1 Yba.underlying22 hi hz1 g zs.length cap (u8s zs) hown ad 1 1 [.int .u8 b] rfl hc h1 hr
      exact ⟨g, cap, w', hrun, by rw [eb]; exact r1, r2, .inl rfl⟩
    · subst hv
      have hold : ∀ j u, (u8s zs)[j]? = some u → w.cell? ((⟨g, 0, none⟩ : Addr).add j) = some u := hown.cells rfl
      obtain ⟨v', w', hrun, r1, r2⟩ := run_append_arg_grows (P := Yba.prog) w 22 ty 5 i0 (.int .u8 0) 1 1 Yba.underlying22 hi hz0 hz1 hz2 rfl (by decide) ⟨g, 0, none⟩ zs.length cap (u8s zs) (by rw [u8s_length]; omega) hold ad 1 1 [.int .u8 b] rfl hc (by omega) hm (by omega)
      obtain ⟨g', cap', rfl, hg'⟩ := shape r1
      exact ⟨g', cap', w', hrun, by rw [eb]; exact ownsRow_base r1 hbase, ⟨r2.os, r2.tape, r2.output, r2.size, fun k hk _ => r2.block k hk (by simp)⟩, .inr hg'⟩

/-- WHAT THE WRITER HAS COME TO, from 'w' (its output 'v' there) on. -/
structure Fed (base pb : Nat) (v : Value) (w : World) (v' : Value) (acc n : Int) (zs : List Int) (w' : World) : Prop where
  wr : Wr w' pb v' acc n
  own : w'.ownsRow base 5 1 v' zs.length (u8s zs)
  below : Below base w w'
  frame : ∀ k, k < w.heap.size → k ≠ pb → v.ownBlock ≠ some k → w'.heap[k]? = w.heap[k]?
  fresh : v'.ownBlock = v.ownBlock ∨ ∀ g, v'.ownBlock = some g → w.heap.size ≤ g

theorem Fed.refl {base pb : Nat} {v : Value} {w : World} {acc n : Int} {zs : List Int} (h : Wr w pb v acc n) (ho : w.ownsRow base 5 1 v zs.length (u8s zs)) : Fed base pb v w v acc n zs w :=
  ⟨h, ho, Below.refl _ _, fun _ _ _ _ => rfl, .inl rfl⟩

theorem Fed.trans {base pb : Nat} {v v1 v2 : Value} {w w1 w2 : World} {a1 n1 a2 n2 : Int} {z1 z2 : List Int} (h : Fed base pb v w v1 a1 n1 z1 w1) (k : Fed base pb v1 w1 v2 a2 n2 z2 w2) : Fed base pb v w v2 a2 n2 z2 w2 := by
  have hs := h.below.size
  refine ⟨k.wr, k.own, h.below.trans k.below, ?_, ?_⟩
  · intro j hj hjp hjv
    rw [k.frame j (by omega) hjp ?_, h.frame j hj hjp hjv]
    rcases h.fresh with e | e
    · rw [e]; exact hjv
    · intro e'; have := e j e'; omega
  · rcases k.fresh with e | e
    · rcases h.fresh with e' | e'
      · exact .inl (e.trans e')
      · exact .inr fun g hg => e' g (e ▸ hg)
    · exact .inr fun g hg => by have := e g hg; omega

theorem Wr.lt {w : World} {pb : Nat} {v : Value} {acc n : Int} (h : Wr w pb v acc n) : pb < w.heap.size := by
  unfold Wr at h; exact (Array.getElem?_eq_some_iff.1 h).1

/-- A store into the writer's own block. -/
theorem Fed.set {base pb : Nat} {v v' : Value} {w w' : World} {acc n acc' n' : Int} {zs : List Int} {j : Nat} {u : Value} (h : Fed base pb v w v' acc n zs w') (hbp : base ≤ pb)
    (hW : (#[v', .int .u64 acc, .int .u64 n] : Array Value).setIfInBounds j u = #[v', .int .u64 acc', .int .u64 n']) : Fed base pb v w v' acc' n' zs (w'.setCell ⟨pb, j, none⟩ u) := by
  have hne := h.wr.apart h.own
  refine ⟨?_, ownsRow_of_heap h.own fun k hk => Below.heap_setCell _ _ _ _ (fun e => hne (by rw [hk, e])), h.below.setCell hbp _, ?_, h.fresh⟩
  · have h1 := h.wr
    unfold Wr at h1 ⊢
    rw [heap_setCell_same w' pb j _ 28 _ h1, hW]
  · intro k hk hkp hkv
    rw [Below.heap_setCell _ _ _ _ hkp]
    exact h.frame k hk hkp hkv

theorem Fed.acc {base pb : Nat} {v v' : Value} {w w' : World} {acc n acc' : Int} {zs : List Int} (h : Fed base pb v w v' acc n zs w') (hbp : base ≤ pb) : Fed base pb v w v' acc' n zs (w'.setCell ⟨pb, 1, none⟩ (.int .u64 acc')) := h.set hbp rfl
theorem Fed.num {base pb : Nat} {v v' : Value} {w w' : World} {acc n n' : Int} {zs : List Int} (h : Fed base pb v w v' acc n zs w') (hbp : base ≤ pb) : Fed base pb v w v' acc n' zs (w'.setCell ⟨pb, 2, none⟩ (.int .u64 n')) := h.set hbp rfl
theorem Fed.drew {base pb : Nat} {v v' : Value} {w w' : World} {acc n : Int} {zs : List Int} (h : Fed base pb v w v' acc n zs w') : Fed base pb v w v' acc n zs w'.drew := ⟨h.wr, h.own, h.below.drew, h.frame, h.fresh⟩

/-- append of one byte to the writer's output, as one step of a region that draws; the store into the field follows. -/
theorem step_feed {ops : Array Oper} {o : Oper} {a : Act} {W : World} {K : Act → World → Prop} {Q : Exit → Act → World → Prop} {E : Prop}
    (hgd : o.guard = none) (s x : Operand) (ho : o.op = .call { callee := .builtin .append, args := #[s, x], argTypes := #[22, 22] })
    (w : World) (base pb : Nat) (ao : Option Addr) (cap : Nat) (acc n : Int) (zs : List Int) (b : Int) (hW : W = (w.alloc (.cells #[.int .u8 b] 5)).drew)
    (hs : a.eval s = .slice ao zs.length cap) (hx : a.eval x = .slice (some ⟨w.heap.size, 0, none⟩) 1 1) (hl : zs.length ≤ 2000000) (hbp : base ≤ pb)
    (hw : Wr w pb (.slice ao zs.length cap) acc n) (hown : w.ownsRow base 5 1 (.slice ao zs.length cap) zs.length (u8s zs))
    (h : ∀ g cap' w1, Hid (Fed base pb (.slice ao zs.length cap) w (.slice (some ⟨g, 0, none⟩) (zs.length + 1) cap') acc n (zs ++ [b]) (w1.setCell ⟨pb, 0, none⟩ (.slice (some ⟨g, 0, none⟩) (zs.length + 1) cap'))) →
      Wr w1 pb (.slice ao zs.length cap) acc n → w1.cell? ⟨pb, 0, none⟩ = some (.slice ao zs.length cap) → w1.cell? ⟨pb, 1, none⟩ = some (.int .u64 acc) → w1.cell? ⟨pb, 2, none⟩ = some (.int .u64 n) → w1.frozen? ⟨pb, 0, none⟩ = false → w1.frozen? ⟨pb, 1, none⟩ = false → w1.frozen? ⟨pb, 2, none⟩ = false →
      K (a.put o.dst (.slice (some ⟨g, 0, none⟩) (zs.length + 1) cap')) w1) :
    if Region.wanted o (yielded ops a.tmps) = true then Oper.wp Yba.prog o a W K Q else E := by
  have hpb := hw.lt
  subst hW
  have hw' : Region.wanted o (yielded ops a.tmps) = true := by simp [Region.wanted, hgd]
  rw [if_pos hw']
  obtain ⟨g, cap', w1, hrun, hown1, hgrow, hfr⟩ := run_append_fresh ((w.alloc (.cells #[.int .u8 b] 5)).drew) base o.type (.slice ao zs.length cap) zs ((hown.alloc _).drew) (by simp; omega) ⟨w.heap.size, 0, none⟩ b (by simp) hl
  have hb : ∀ k, k < w.heap.size → (Value.slice ao zs.length cap).ownBlock ≠ some k → w1.heap[k]? = w.heap[k]? := by
    intro k hk hko
    rw [hgrow.block k (by simp; omega) (fun e => hko e.symm)]
    exact Below.heap_alloc _ _ _ hk
  have hbel : Below base w w1 := (((Below.refl base w).alloc (by omega) _).drew).grown hgrow (by simp; omega) (fun k hk => (hown.lt k hk).1)
  have hW1 : Wr w1 pb (.slice ao zs.length cap) acc n := by
    unfold Wr
    rw [hb pb hpb (fun e => hw.apart hown e)]
    exact hw
  have hne := hW1.apart hown1
  obtain ⟨c0, c1, c2, f0, f1, f2⟩ := hW1.cell
  unfold Oper.wp
  simp only [execOp, ho, resolve, invoke, builtin, Sem.run_bind, Sem.run_pure, Result.andThen_ok, List.map_toArray, List.map_cons, List.map_nil, hs, hx, hrun]
  refine h g cap' w1 ?_ hW1 c0 c1 c2 f0 f1 f2
  refine ⟨?_, ?_, hbel.setCell hbp _, ?_, ?_⟩
  · unfold Wr at hW1 ⊢
    rw [heap_setCell_same w1 pb 0 _ 28 _ hW1]
    rfl
  · have e : (zs ++ [b]).length = zs.length + 1 := by simp
    rw [e]
    exact ownsRow_of_heap hown1 fun k hk => Below.heap_setCell _ _ _ _ (fun e => hne (by rw [hk, e]))
  · intro k hk hkp hko
    rw [Below.heap_setCell _ _ _ _ hkp]
    exact hb k hk hko
  · rcases hfr with e | e
    · exact .inl e.symm
    · refine .inr fun g' hg' => ?_
      obtain rfl : g = g' := by simpa [Value.ownBlock] using hg'
      simp at e; omega

end Go.Proofs.Ybulkdyqi
