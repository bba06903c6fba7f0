/-
  STATEMENT LawS6266AWhole: THE WALKS of reset on a nil map, and of (*evaluation).empty.
-/
import Derived.Test.YbulkdytaA4
import Derived.BigRegion
import Derived.StillTailTactics
import Derived.Deep.MidRow
import Derived.Laws.IdiomRangeMap
import Derived.Laws.EntriesVeiled
namespace Go.Proofs.Ybulkdyta
open Go.RowKit Go.Maps Go.ChangeMaps Go.MapKept

set_option maxHeartbeats 1000000 in
set_option maxRecDepth 100000 in
theorem reset_nil (E : Nat) (w : World) (h3 : w.cell? ⟨E, 3, none⟩ = some (.map none)) :
    Calls Yba.prog 13 #[.pointer (some ⟨E, 3, none⟩)] w fun e w' => e = .returned (.tuple #[]) ∧ Below w.heap.size w w' := by
  have hElt : E < w.heap.size := World.block_lt_of_cell? w _ h3
  have hr := fun w => run_range_nilMap (P := Yba.prog) w 53 9 55 Yba.underlying53
  have hn := fun w ty a b s => run_next_nilMap (P := Yba.prog) w ty a b s
  have hcl : ∀ ty w, (Builtin.clear_ #[53] ty #[.map none]).run Yba.prog w = .ok (.tuple #[]) w := fun ty w => by simp [Builtin.clear_, run_underlying Yba.underlying53, Result.andThen]
  go_enter Yba.func13, Yba.ntmps13
  go_wp2
  refine wp_loop_rounds 1 ?_
  rw [rounds_succ]
  go_wp2
  go_end0
  exact ⟨rfl, (Below.refl _ w).alloc (Nat.le_refl _) _⟩

/-- The 27 cells of an evaluation in block E. -/
structure Ev (w : World) (E : Nat) (cs : List Value) : Prop where
  at0 : ∀ o v, cs[o]? = some v → w.cell? ⟨E, o, none⟩ = some v
  free : ∀ o, w.frozen? ⟨E, o, none⟩ = false

theorem Kept.setCells (b : Nat) : ∀ (vs : List Value) (o : Nat) (w : World), Kept (· = b) w (w.setCells b o vs)
  | [], _, _ => Kept.refl _ _
  | v :: vs, o, w => (Kept.set (S := (· = b)) w ⟨b, o, none⟩ v rfl).trans (Kept.setCells b vs (o + 1) (w.setCell ⟨b, o, none⟩ v))

theorem Ev.there {w : World} {E : Nat} {cs : List Value} (h : Ev w E cs) : w.there E 0 cs.length := fun j hj => by
  rw [Nat.zero_add]
  exact ⟨by rw [h.at0 j (cs[j]) (by simp [hj])]; rfl, h.free j⟩

theorem Ev.set {w : World} {E : Nat} {cs vs : List Value} (h : Ev w E cs) (hl : vs.length = cs.length) : Ev (w.setCells E 0 vs) E vs := by
  refine ⟨fun o v hv => ?_, fun o => by rw [World.frozen?_setCells]; exact h.free o⟩
  have := World.rangeAt_setCells_same w E 0 vs (by rw [hl]; exact h.there) o v hv
  rwa [Nat.zero_add] at this

theorem Yba.size101 : (Yba.prog.info? 101).map (·.size) = some 27 := by kernel_rfl

/-- What empty leaves. -/
def Emptied (X : Nat → Nat → Nat → World → Prop) (E : Nat) (r ri : Option Nat) (A la : Nat) (rq tg cl : Nat) (lr lt lc : Nat) (q1 q2 q3 : Option Addr) (l1 l2 l3 : Nat) (block used : Int) (e : Ending) (w' : World) : Prop :=
  ∃ a q c w1, e = .returned (.tuple #[]) ∧ X a q c w1 ∧ Kept (· = E) w1 w' ∧
    Ev w' E [.slice none 0 0, .slice none 0 0, .nilFunc, .map r, .slice (some ⟨a, 0, none⟩) q c, .slice (some ⟨rq, 0, none⟩) lr lr, .slice (some ⟨tg, 0, none⟩) lt lt, .map ri, .slice (some ⟨A, 0, none⟩) 0 la,
      .int .i64 0, .int .i64 0, .int .i64 0, .int .i64 0, .int .i64 0, .int .i64 0, .nilIface, .slice (some ⟨cl, 0, none⟩) lc lc, .slice q1 l1 l1, .int .i64 block, .int .i64 used, .slice q2 l2 l2, .int .i64 block, .int .i64 used, .slice q3 l3 l3, .int .i64 block, .int .i64 used, .bool false]

set_option maxHeartbeats 1000000 in
set_option maxRecDepth 100000 in
theorem empty_any (X : Nat → Nat → Nat → World → Prop) (E : Nat) (r ri : Option Nat) (A la : Nat) (rq tg cl : Nat) (lr lt lc : Nat) (q1 q2 q3 : Option Addr) (l1 l2 l3 : Nat) (block used : Int) (d0 d1 d2 d9 d10 d11 d12 d13 d14 d15 d26 : Value) (w : World)
    (h13 : Calls Yba.prog 13 #[.pointer (some ⟨E, 3, none⟩)] w fun e w1 => ∃ a q c, e = .returned (.tuple #[]) ∧ X a q c w1 ∧
      Ev w1 E [d0, d1, d2, .map r, .slice (some ⟨a, 0, none⟩) q c, .slice (some ⟨rq, 0, none⟩) lr lr, .slice (some ⟨tg, 0, none⟩) lt lt, .map ri, .slice (some ⟨A, 0, none⟩) la la, d9, d10, d11, d12, d13, d14, d15, .slice (some ⟨cl, 0, none⟩) lc lc, .slice q1 l1 l1, .int .i64 block, .int .i64 used, .slice q2 l2 l2, .int .i64 block, .int .i64 used, .slice q3 l3 l3, .int .i64 block, .int .i64 used, d26]) :
    Calls Yba.prog 10 #[.pointer (some ⟨E, 0, none⟩)] w fun e w' => Emptied X E r ri A la rq tg cl lr lt lc q1 q2 q3 l1 l2 l3 block used e w' := by
  go_enter Yba.func10, Yba.ntmps10
  go_wp2_with (go_at_call 13; refine h13.mono ?_; rintro _ w1 ⟨a, q, c, rfl, hX, hE⟩)
  refine wp_region_still_tail 32 (by kernel_rfl) (by kernel_rfl) ?_
  have hE0 : Ev w1.drew E _ := ⟨hE.at0, hE.free⟩
  have hk0 : Kept (· = E) w1 w1.drew := Kept.drew _ _
  change wpStill _ _ w1.drew (fun a' => wpList _ _ _ _ a' w1.drew) _ _
  generalize w1.drew = W at hE0 hk0 ⊢
  clear hE
  have e0 := hE0.at0 0 _ rfl
  have e1 := hE0.at0 1 _ rfl
  have e2 := hE0.at0 2 _ rfl
  have e3 := hE0.at0 3 _ rfl
  have e4 := hE0.at0 4 _ rfl
  have e5 := hE0.at0 5 _ rfl
  have e6 := hE0.at0 6 _ rfl
  have e7 := hE0.at0 7 _ rfl
  have e8 := hE0.at0 8 _ rfl
  have e9 := hE0.at0 9 _ rfl
  have e10 := hE0.at0 10 _ rfl
  have e11 := hE0.at0 11 _ rfl
  have e12 := hE0.at0 12 _ rfl
  have e13 := hE0.at0 13 _ rfl
  have e14 := hE0.at0 14 _ rfl
  have e15 := hE0.at0 15 _ rfl
  have e16 := hE0.at0 16 _ rfl
  have e17 := hE0.at0 17 _ rfl
  have e18 := hE0.at0 18 _ rfl
  have e19 := hE0.at0 19 _ rfl
  have e20 := hE0.at0 20 _ rfl
  have e21 := hE0.at0 21 _ rfl
  have e22 := hE0.at0 22 _ rfl
  have e23 := hE0.at0 23 _ rfl
  have e24 := hE0.at0 24 _ rfl
  have e25 := hE0.at0 25 _ rfl
  have e26 := hE0.at0 26 _ rfl
  have ff := hE0.free
  simp only [List.take_succ_cons, List.take_zero, List.drop_succ_cons, List.drop_zero]
  repeat still_step
  try refine wpStill_nil ?_
  refine wpList_store_mid rfl 101 (.tmp 37) (.tmp 36) rfl E 0 _ rfl rfl (by exact hE0.there) Yba.size101 (by simp [Value.oneCell']) ?_
  have hE1 := hE0.set (vs := [.slice none 0 0, .slice none 0 0, .nilFunc, .map r, .slice (some ⟨a, 0, none⟩) q c, .slice (some ⟨rq, 0, none⟩) lr lr, .slice (some ⟨tg, 0, none⟩) lt lt, .map ri, .slice (some ⟨A, 0, none⟩) 0 la,
      .int .i64 0, .int .i64 0, .int .i64 0, .int .i64 0, .int .i64 0, .int .i64 0, .nilIface, .slice (some ⟨cl, 0, none⟩) lc lc, .slice q1 l1 l1, .int .i64 block, .int .i64 used, .slice q2 l2 l2, .int .i64 block, .int .i64 used, .slice q3 l3 l3, .int .i64 block, .int .i64 used, .bool false]) rfl
  have hk1 := fun vs => hk0.trans (Kept.setCells E vs 0 W)
  clear hE0 e0 e1 e2 e3 e4 e5 e6 e7 e8 e9 e10 e11 e12 e13 e14 e15 e16 e17 e18 e19 e20 e21 e22 e23 e24 e25 e26 ff
  go_wp2
  go_end0
  exact ⟨a, q, c, w1, rfl, hX, hk1 _, hE1⟩
end Go.Proofs.Ybulkdyta
