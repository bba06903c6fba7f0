/-
  THE PROOF OF 'Rows.LawS6266AWholeSaid': the row's step over YbulkdytaLawA's walk.
-/
import Derived.Test.YbulkdytaLawA
import Derived.Test.YbulkdytaRead2
import Derived.ShutString
import Derived.ChangeOld
import Derived.Below
namespace Go.Proofs.Ybulkdyta.lawS6266AWhole
open Go.ChangeShapes Go.WideShapes Go.ChangeAt Go.RowKit Go.Joins

theorem own : ownKnob Yba.prog.godebug = none := by kernel_rfl
theorem laidOut : laidOutB Yba.prog = true := by kernel_rfl

set_option maxRecDepth 100000 in
theorem lifted (os : Os) (started : os.Started) (H : Type) (enc : TypeId × Value → H) :
    ReturnsInHanded {} Yba.checked os 3 .any (Rows.lawS6266AWholeSpec.pre6 enc Yba.prog Yba.f3 Rows.lawS6266AWholeRow.domain false) (Rows.lawS6266AWholeSpec.post enc Yba.prog Yba.f3 false true false false) := by
  refine returnsInHanded_of_change_sized (C := Yba.checked) own started (by kernel_rfl) Yba.func3
    (ChangeSpec.witness6 (enc := enc) (C := Yba.checked) false ⟨#[], #[.agg #[.int .i64 0, .int .i64 0, .int .i64 0, .int .i64 0, .int .i64 0, .int .i64 0, .bool false, .bool false, .bool false, .int .u8 0, .int .u8 0, .slice none 0 0, .slice none 0 0],
      .agg #[.bool false, .slice none 0 0, .slice none 0 0, .int .u8 0], .agg #[.slice none 0 0, .slice none 0 0, .bool false, .slice none 0 0], .agg #[.slice none 0 0, .slice none 0 0, .slice none 0 0, .int .i64 0, .int .i64 0]], []⟩ 8 (by kernel_rfl) (by kernel_rfl) (by kernel_rfl) (by kernel_rfl)) ?_
  intro W base args ds gs before hval0 hW _ hsz0 _
  have hval : ∀ (j : Nat) t v, Yba.f3.params[j]? = some t → args[j]? = some v → Value.okWide Yba.prog W .any base t v := hval0
  have hsz : (DataW.weightsEach Yba.prog (Yba.f3.params.toList ++ Rows.lawS6266AWholeSpec.plain.varTypes Yba.prog) (ds ++ gs)).all (· ≤ reachBytes) = true := hsz0
  clear hsz0
  have hW' := hW
  obtain ⟨p, q, hA0, hV, rfl, _, _⟩ := hW
  have hA : DataW.TrodAll enc Yba.prog W 0 (fun _ => true) true Yba.f3.params.toList args.toList ds p := hA0
  rw [Yba.params3] at hA hval hsz
  obtain ⟨v0, vs0, d0, ds0, p0, q0, hargs, rfl, rfl, h0, r0⟩ := trodAll_cons hA
  obtain ⟨v1, vs1, d1, ds1, p1, q1, rfl, rfl, rfl, h1, r1⟩ := trodAll_cons r0
  obtain ⟨v2, vs2, d2, ds2, p2, q2, rfl, rfl, rfl, h2, r2⟩ := trodAll_cons r1
  obtain ⟨v3, vs3, d3, ds3, p3, q3, rfl, rfl, rfl, h3, r3⟩ := trodAll_cons r2
  obtain ⟨rfl, rfl, rfl⟩ := trodAll_nil r3
  obtain rfl : args = #[v0, v1, v2, v3] := by cases args; simp_all
  obtain ⟨rfl, rfl⟩ := trodVars_none hV
  have lt0 : ∀ x ∈ p0, x.block < W.heap.size := by obtain ⟨m, hm⟩ := h0; exact DataW.trod_lt m _ _ _ hm
  have lt1 : ∀ x ∈ p1, x.block < W.heap.size := by obtain ⟨m, hm⟩ := h1; exact DataW.trod_lt m _ _ _ hm
  have lt2 : ∀ x ∈ p2, x.block < W.heap.size := by obtain ⟨m, hm⟩ := h2; exact DataW.trod_lt m _ _ _ hm
  have lt3 : ∀ x ∈ p3, x.block < W.heap.size := by obtain ⟨m, hm⟩ := h3; exact DataW.trod_lt m _ _ _ hm
  obtain ⟨a0, a1, a2, a3, a4, a5, b0, b1, b2, n0, n1, pa, la, ca, fa, pc, lc, cc, fc, rfl, m0, m1, ha, wa, hc⟩ := st_open (hval 0 25 v0 rfl rfl) h0
  obtain ⟨b3, pn, ln, cn, fn, pl, ll, cl, fl, n2, rfl, m2, hn, wn, hl⟩ := ix_open (hval 1 29 v1 rfl rfl) h1
  obtain ⟨pr, lr, cr, fr, pt, lt, ct, ft, b4, pk, lk, ck, fk, rfl, hr, ht, hk, wk⟩ := pd_open (hval 2 33 v2 rfl rfl) h2
  obtain ⟨P1, l1, c1, f1, P2, l2, c2, f2, P3, l3, c3, f3, i0, i1, rfl, x1, x2, x3, y1, y2, y3, z1, z2, z3, t1, t2, t3⟩ := sk_open (j := 3) hsz rfl rfl (hval 3 35 v3 rfl rfl) h3
  clear hA0 hval0
  let I : In := { asks := a0, budget := a1, steps := a2, limit := a3, levels := a4, maxl := a5, block := i0, used := i1, pol := n0, con := n1, spare := n2, ans := b0, tr := b1, exh := b2, nm1 := b3, nm2 := b4, pa := pa, pc := pc, pn := pn, pl := pl, pr := pr, pt := pt, pk := pk, p1 := P1, p2 := P2, p3 := P3, la := la, lc := lc, ln := ln, ll := ll, lr := lr, lt := lt, lk := lk, l1 := l1, l2 := l2, l3 := l3, ca := ca, cc := cc, cn := cn, cl := cl, cr := cr, ct := ct, ck := ck, c1 := c1, c2 := c2, c3 := c3, fa := fa, fc := fc, fn := fn, fl := fl, fr := fr, ft := ft, fk := fk, f1 := f1, f2 := f2, f3 := f3 }
  refine (lawA I W ⟨ha, hc, hn, hl, hr, ht, hk, x1, x2, x3⟩ m0 m1 m2 wn wk wa y1 y2 y3 z1 z2 z3 t1 t2 t3).mono fun e W' ⟨he, bel⟩ => ?_
  subst he
  exact ⟨_, rfl, _, _, _, [], _, [], hW', trodAll_mk1 (shut_bool Yba.underlying4 _), (trodAll_cons_mk (Below.trod laidOut (by kernel_rfl) (of_decide_eq_true (by kernel_rfl)) h0 bel lt0) (trodAll_cons_mk (Below.trod laidOut (by kernel_rfl) (of_decide_eq_true (by kernel_rfl)) h1 bel lt1) (trodAll_cons_mk (Below.trod laidOut (by kernel_rfl) (of_decide_eq_true (by kernel_rfl)) h2 bel lt2) (trodAll_cons_mk (Below.trod laidOut (by kernel_rfl) (of_decide_eq_true (by kernel_rfl)) h3 bel lt3) trodAll_mk0)))), rfl, bel.frame _, fun h => by cases h⟩

theorem over : Rows.lawS6266AWholeRow.holds Yba.pinned (OpenSpec.ofChange Rows.lawS6266AWholeSpec) :=
  OpenClaim.holds_of_wide 3 Yba.f3 rfl rfl rfl rfl rfl rfl rfl ⟨rfl, rfl, rfl, rfl, rfl⟩ rfl rfl rfl rfl rfl (by kernel_rfl) Yba.func3 (by kernel_rfl)
    (of_decide_eq_true (by kernel_rfl)) (by unfold Func.isWrapper; first | (rw [if_pos (by decide +kernel)]; kernel_rfl) | (rw [if_neg (by decide +kernel)]; exact ⟨rfl, rfl⟩))
    (fun os started H enc _ => lifted os started H enc)

/-- THE STATEMENT. -/
theorem proved : Rows.LawS6266AWholeSaid := over
#print axioms proved
end Go.Proofs.Ybulkdyta.lawS6266AWhole
