/-
  THE PROOF OF 'Rows.LawS6261CWholeToldSaid': the row's step over YbulkdyqiFmtLaw's walk; the card by the builder.
-/
import Derived.Test.YbulkdyqiFmtLaw
import Derived.Test.YbulkdyqiFmtTie
import Derived.Test.YbulkdyqiFmtCards
import Derived.ProofKit
import Derived.OpenShut
import Derived.ShutString
import Derived.ChangeOld
import Derived.Below
import Derived.RowKitTokens
import Derived.Stop.JoinedTold
import Derived.Stop.LaidTwo
import Derived.Deep.DeepLaidRun
import Derived.SevenTiedAt
import Derived.WalkSmall
import Derived.Stop.LaidErr
namespace Go.Proofs.YbulkdyqiFmt.lawS6261CWhole
open Go.ChangeShapes Go.WideShapes Go.ChangeAt Go.RowKit
open Go.ChangeMaps (open_string shut_string)
open Go.Extern.Stop Go.Stop Go.Extern
set_option linter.unusedVariables false
set_option maxRecDepth 100000

theorem own : ownKnob Ybaf.prog.godebug = none := by kernel_rfl
theorem laidOut : laidOutB Ybaf.prog = true := by kernel_rfl
theorem cells52 : Ybaf.prog.cellsOf 52 = 1 := by kernel_rfl
theorem cells9 : Ybaf.prog.cellsOf 9 = 1 := by kernel_rfl
theorem stopKnobs : Ybaf.pinned.checked.prog.stopKnobs = [] := by kernel_rfl
theorem quiet (os : Os) : Stop.quiet Ybaf.pinned.checked.prog os := by
  intro k hk
  rw [stopKnobs] at hk
  cases hk

/-- The one row of that name. -/
theorem row50 (nm : String) (hnm : nm = (String.singleton (Char.ofNat 42)) ++ "errors.errorString") (u : TypeId) (h : Ybaf.prog.typeName? 3 u = some nm) : u = 50 :=
  typeName_ptr_named (nm := "errors.errorString") (by kernel_rfl) (by kernel_rfl) (by decide) u (by rw [h, hnm]; kernel_rfl)

/-- What the walk is told of a slice of bytes that came in. -/
theorem is_bytes {H : Type} {enc : TypeId × Value → H} {W : World} {a : Option Addr} {len cap : Nat} {d : DataW H} {p : List MemPlace} (h : DataW.Trod enc Ybaf.prog W 0 (fun _ => true) true 22 (.slice a len cap) d p) :
    ∃ zs : List Int, Has W a len zs ∧ (a = none → len = 0 ∧ cap = 0) ∧ len ≤ cap ∧ cap ≤ 9223372036854775807 ∧ ∀ j, j < len → 0 ≤ zs.getD j 0 ∧ zs.getD j 0 ≤ 255 := by
  obtain ⟨fuel, hf⟩ := h
  rcases open_ints Ybaf.underlying22 Ybaf.underlying5 (by kernel_rfl) hf with ⟨hcs, _⟩ | ⟨x, l, c, zs, hcs, _, hl, hm, hz, _, hcell, hwz⟩
  · simp [Value.cells] at hcs
    obtain ⟨rfl, rfl, rfl⟩ := hcs
    exact ⟨[], Has.nil _ _, fun _ => ⟨rfl, rfl⟩, Nat.le_refl _, by omega, fun j hj => by omega⟩
  · simp [Value.cells] at hcs
    obtain ⟨rfl, rfl, rfl⟩ := hcs
    have hz' : zs.length = cap := by simpa using hz
    refine ⟨zs.take len, ⟨by simp; omega, fun j hj => ⟨x, rfl, ?_⟩⟩, fun h => (by cases h), hl, by unfold maxLen at hm; omega, fun j hj => ?_⟩
    · rw [hcell j (by omega)]
      simp [List.getD, hj]
    · have e : (zs.take len).getD j 0 = zs.getD j 0 := by simp [List.getD, hj]
      have hm2 : zs.getD j 0 ∈ zs := by
        have hj2 : j < zs.length := by omega
        simp [List.getD, List.getElem?_eq_getElem hj2]
      have := bounds_u8 (hwz _ hm2)
      rw [e]; omega

/-- Three named variables of an interface type, read as tokens. -/
theorem vars_read3 {H : Type} (enc : TypeId × Value → H) {P : Program} {W : World} {n0 n1 n2 : String} {g0 g1 g2 : Nat} {ti : TypeId} {ms : Array (String × TypeId)} {x0 x1 x2 : Value}
    (hi : P.underlying ti = some (.interface ms)) (hg0 : P.globalNamed n0 = some g0) (ht0 : (P.globals[g0]?).map (·.type) = some ti) (h0 : W.var? P n0 = some #[x0]) (i0 : IsIface x0)
    (hg1 : P.globalNamed n1 = some g1) (ht1 : (P.globals[g1]?).map (·.type) = some ti) (h1 : W.var? P n1 = some #[x1]) (i1 : IsIface x1)
    (hg2 : P.globalNamed n2 = some g2) (ht2 : (P.globals[g2]?).map (·.type) = some ti) (h2 : W.var? P n2 = some #[x2]) (i2 : IsIface x2) (sp : Nat → Bool) :
    DataW.TrodVars enc P W sp [n0, n1, n2] [tok enc x0, tok enc x1, tok enc x2] [.cell g0 0, .cell g1 0, .cell g2 0] :=
  ⟨g0, ti, #[x0], 1, [], [.cell g1 0, .cell g2 0], hg0, ht0, h0, trod_held hi i0 0, vars_read2 enc hg1 ht1 hi h1 i1 hg2 ht2 hi h2 i2 sp, rfl⟩

set_option maxHeartbeats 4000000 in
theorem lifted (os : Os) (started : os.Started) (H : Type) (enc : TypeId × Value → H) :
    ReturnsInTold none {} Ybaf.checked os 3 .any Input.okWide ((OpenSpec.ofChange Rows.lawS6261CWholeSpec).preRow enc Ybaf.prog Ybaf.f3 Rows.lawS6261CWholeRow.domain false Rows.lawS6261CWholeRow.laid)
      (fun F => ((OpenSpec.ofChange Rows.lawS6261CWholeSpec).at F).post enc Ybaf.prog Ybaf.f3 false true false false) (aloneAtReturn Ybaf.prog) nothingAlways := by
  refine returnsInTold_of_row (C := Ybaf.checked) (s := OpenSpec.ofChange Rows.lawS6261CWholeSpec) (by kernel_rfl) own started (by kernel_rfl) Ybaf.func3
    (OpenSpec.witness_stopped_at (enc := enc) (C := Ybaf.checked) false ({ World.holding Ybaf.prog os ⟨#[.cells #[.string ⟨#[118, 99, 100, 105, 102, 102, 58, 32, 109, 97, 108, 102, 111, 114, 109, 101, 100, 32, 100, 101, 108, 116, 97]⟩] 52, .cells #[.string ⟨#[118, 99, 100, 105, 102, 102, 58, 32, 116, 97, 114, 103, 101, 116, 32, 108, 97, 114, 103, 101, 114, 32, 116, 104, 97, 110, 32, 116, 104, 101, 32, 100, 101, 99, 111, 100, 101, 114, 32, 97, 99, 99, 101, 112, 116, 115]⟩] 52, .cells #[.string ⟨#[118, 99, 100, 105, 102, 102, 58, 32, 102, 101, 97, 116, 117, 114, 101, 32, 111, 117, 116, 115, 105, 100, 101, 32, 116, 104, 101, 32, 112, 108, 97, 105, 110, 32, 102, 111, 114, 109]⟩] 52], #[], []⟩ with heap := (((World.holding Ybaf.prog os ⟨#[.cells #[.string ⟨#[118, 99, 100, 105, 102, 102, 58, 32, 109, 97, 108, 102, 111, 114, 109, 101, 100, 32, 100, 101, 108, 116, 97]⟩] 52, .cells #[.string ⟨#[118, 99, 100, 105, 102, 102, 58, 32, 116, 97, 114, 103, 101, 116, 32, 108, 97, 114, 103, 101, 114, 32, 116, 104, 97, 110, 32, 116, 104, 101, 32, 100, 101, 99, 111, 100, 101, 114, 32, 97, 99, 99, 101, 112, 116, 115]⟩] 52, .cells #[.string ⟨#[118, 99, 100, 105, 102, 102, 58, 32, 102, 101, 97, 116, 117, 114, 101, 32, 111, 117, 116, 115, 105, 100, 101, 32, 116, 104, 101, 32, 112, 108, 97, 105, 110, 32, 102, 111, 114, 109]⟩] 52], #[], []⟩).heap.modify 0 (fun o => match o with | .cells _ t frozen => .cells #[.iface 50 (.pointer (some ⟨8, 0, none⟩))] t frozen | o => o)).modify 1 (fun o => match o with | .cells _ t frozen => .cells #[.iface 50 (.pointer (some ⟨9, 0, none⟩))] t frozen | o => o)).modify 2 (fun o => match o with | .cells _ t frozen => .cells #[.iface 50 (.pointer (some ⟨10, 0, none⟩))] t frozen | o => o) }) #[.int .u8 0, .int .i64 0, .int .i64 0, .slice none 0 0, .int .i64 0, .int .i64 0, .int .i64 0, .slice none 0 0, .bool false, .bool false, .slice none 0 0] rfl (by kernel_rfl) (by kernel_rfl) (by kernel_rfl)
      (OpenSpec.preRow_of_B rfl 8 (by kernel_rfl) (by kernel_rfl) (laidMet_of_run3 8 (by kernel_rfl) (by kernel_rfl) (by kernel_rfl)))) ?_
  intro F W base args ds gs before _ hF hval0 hW _ _ _ hL _
  have hval : ∀ (j : Nat) t v, Ybaf.f3.params[j]? = some t → args[j]? = some v → Value.okWide Ybaf.prog W .any base t v := hval0
  have hW' := hW
  obtain ⟨p, q, hA0, hV0, rfl, hfz, hnd⟩ := hW
  have hA : DataW.TrodAll enc Ybaf.prog W 0 (fun _ => true) true Ybaf.f3.params.toList args.toList ds p := hA0
  have hV : DataW.TrodVars enc Ybaf.prog W (fun _ => true) Rows.lawS6261CWholeSpec.vars gs q := hV0
  rw [Ybaf.params3] at hA hval
  obtain ⟨v0, vs0, d0, ds0, p0, q0, hargs, rfl, rfl, h0, r0⟩ := trodAll_cons hA
  obtain ⟨v1, vs1, d1, ds1, p1, q1, rfl, rfl, rfl, h1, r1⟩ := trodAll_cons r0
  obtain ⟨v2, vs2, d2, ds2, p2, q2, rfl, rfl, rfl, h2, r2⟩ := trodAll_cons r1
  obtain ⟨v3, vs3, d3, ds3, p3, q3, rfl, rfl, rfl, h3, r3⟩ := trodAll_cons r2
  obtain ⟨v4, vs4, d4, ds4, p4, q4, rfl, rfl, rfl, h4, r4⟩ := trodAll_cons r3
  obtain ⟨v5, vs5, d5, ds5, p5, q5, rfl, rfl, rfl, h5, r5⟩ := trodAll_cons r4
  obtain ⟨v6, vs6, d6, ds6, p6, q6, rfl, rfl, rfl, h6, r6⟩ := trodAll_cons r5
  obtain ⟨v7, vs7, d7, ds7, p7, q7, rfl, rfl, rfl, h7, r7⟩ := trodAll_cons r6
  obtain ⟨v8, vs8, d8, ds8, p8, q8, rfl, rfl, rfl, h8, r8⟩ := trodAll_cons r7
  obtain ⟨v9, vs9, d9, ds9, p9, q9, rfl, rfl, rfl, h9, r9⟩ := trodAll_cons r8
  obtain ⟨v10, vs10, d10, ds10, p10, q10, rfl, rfl, rfl, h10, r10⟩ := trodAll_cons r9
  obtain ⟨rfl, rfl, rfl⟩ := trodAll_nil r10
  obtain rfl : args = #[v0, v1, v2, v3, v4, v5, v6, v7, v8, v9, v10] := by cases args; simp_all
  obtain ⟨x0, rfl, rfl, rfl, w0⟩ := open_int Ybaf.underlying5 (hval 0 5 v0 rfl rfl) h0
  obtain ⟨x1, rfl, rfl, rfl, w1⟩ := open_int Ybaf.underlying3 (hval 1 3 v1 rfl rfl) h1
  obtain ⟨x2, rfl, rfl, rfl, w2⟩ := open_int Ybaf.underlying3 (hval 2 3 v2 rfl rfl) h2
  obtain ⟨e3, len3, cap3, rfl⟩ := okWide_slice Ybaf.underlying22 (hval 3 22 v3 rfl rfl)
  have k3 := h3
  have lt3 : ∀ x ∈ p3, x.block < W.heap.size := by obtain ⟨m, hm⟩ := k3; exact DataW.trod_lt m _ _ _ hm
  obtain ⟨z3, B3⟩ := is_bytes h3
  obtain ⟨x4, rfl, rfl, rfl, w4⟩ := open_int Ybaf.underlying3 (hval 4 3 v4 rfl rfl) h4
  obtain ⟨x5, rfl, rfl, rfl, w5⟩ := open_int Ybaf.underlying3 (hval 5 3 v5 rfl rfl) h5
  obtain ⟨x6, rfl, rfl, rfl, w6⟩ := open_int Ybaf.underlying3 (hval 6 3 v6 rfl rfl) h6
  obtain ⟨e7, len7, cap7, rfl⟩ := okWide_slice Ybaf.underlying22 (hval 7 22 v7 rfl rfl)
  have k7 := h7
  have lt7 : ∀ x ∈ p7, x.block < W.heap.size := by obtain ⟨m, hm⟩ := k7; exact DataW.trod_lt m _ _ _ hm
  obtain ⟨z7, B7⟩ := is_bytes h7
  obtain ⟨x8, rfl, rfl, rfl⟩ := open_bool Ybaf.underlying4 (hval 8 4 v8 rfl rfl) h8
  obtain ⟨x9, rfl, rfl, rfl⟩ := open_bool Ybaf.underlying4 (hval 9 4 v9 rfl rfl) h9
  obtain ⟨e10, len10, cap10, rfl⟩ := okWide_slice Ybaf.underlying22 (hval 10 22 v10 rfl rfl)
  have k10 := h10
  have lt10 : ∀ x ∈ p10, x.block < W.heap.size := by obtain ⟨m, hm⟩ := k10; exact DataW.trod_lt m _ _ _ hm
  obtain ⟨z10, B10⟩ := is_bytes h10
  have hL' : laidMet Ybaf.prog Rows.lawS6261CWholeRow.laid W := hL
  obtain ⟨a2, s2, v2, c2, _, _⟩ := laid_sentinel (g := 2) (ti := 24) (tp := 50) (te := 52) (ts := 9) hL' (by kernel_rfl) (by kernel_rfl) Ybaf.underlying24 (row50 _ (by decide)) Ybaf.underlying50 Ybaf.underlying52 rfl rfl Ybaf.underlying9 cells52 cells9
  obtain ⟨a1, a0, s1, s0, c1', c0', t1, t0, v1, v0, c1, _, _, c0, _, _, ne, b1, b0⟩ := laid_sentinels2 (g0 := 1) (g1 := 0) (ti := 24) (tp := 50) (te := 52) (ts := 9) hL'.tail (by kernel_rfl) (by kernel_rfl) (by kernel_rfl) (by kernel_rfl) Ybaf.underlying24 (row50 _ (by decide)) Ybaf.underlying50 Ybaf.underlying52 rfl rfl Ybaf.underlying9 cells52 cells9
  have gn0 : Ybaf.prog.globalNamed "example.com/deltagram/deltagram/vcdiff.ErrMalformed" = some 0 := by kernel_rfl
  have gn1 : Ybaf.prog.globalNamed "example.com/deltagram/deltagram/vcdiff.ErrTooLarge" = some 1 := by kernel_rfl
  have gn2 : Ybaf.prog.globalNamed "example.com/deltagram/deltagram/vcdiff.ErrUnsupported" = some 2 := by kernel_rfl
  have gt0 : (Ybaf.prog.globals[0]?).map (·.type) = some 24 := by kernel_rfl
  have gt1 : (Ybaf.prog.globals[1]?).map (·.type) = some 24 := by kernel_rfl
  have gt2 : (Ybaf.prog.globals[2]?).map (·.type) = some 24 := by kernel_rfl
  have hS : Sent a0 a1 a2 W := ⟨by simpa using World.var?_cell gn0 v0 0, by simpa using World.var?_cell gn1 v1 0, by simpa using World.var?_cell gn2 v2 0, ⟨_, c0⟩, ⟨_, c1⟩, ⟨_, c2⟩, ne, ⟨_, _, b0⟩, ⟨_, _, b1⟩⟩
  have lt0 := World.block_lt_of_cell? W _ hS.g0
  have lt1 := World.block_lt_of_cell? W _ hS.g1
  have lt2 := World.block_lt_of_cell? W _ hS.g2
  obtain ⟨rfl, rfl⟩ := hV.unique (vars_read3 enc Ybaf.underlying24 gn0 gt0 v0 trivial gn1 gt1 v1 trivial gn2 gt2 v2 trivial _)
  have y2 := bounds_i64 w2
  have y4 := bounds_i64 w4
  refine (law_any F.told x0 x1 x2 x4 x5 x6 e3 e7 e10 len3 cap3 len7 cap7 len10 cap10 z3 z7 z10 x8 x9 a0 a1 a2 W hF hS B3.1 B7.1 B10.1 B3.2.1 B7.2.1 B10.2.1 B3.2.2.1 B7.2.2.1 B3.2.2.2.1 B7.2.2.2.1 y2.2 y4.2 B3.2.2.2.2).mono ?_
  rintro e W' ⟨rfl, bel⟩
  exact ⟨_, rfl, _, _, _, [], _, [.cell 0 0, .cell 1 0, .cell 2 0], hW', trodAll_mk1 (shut_bool Ybaf.underlying4 _), (trodAll_cons_mk (shut_int Ybaf.underlying5 w0) (trodAll_cons_mk (shut_int Ybaf.underlying3 w1) (trodAll_cons_mk (shut_int Ybaf.underlying3 w2) (trodAll_cons_mk (Below.trod laidOut (by kernel_rfl) (of_decide_eq_true (by kernel_rfl)) k3 bel lt3) (trodAll_cons_mk (shut_int Ybaf.underlying3 w4) (trodAll_cons_mk (shut_int Ybaf.underlying3 w5) (trodAll_cons_mk (shut_int Ybaf.underlying3 w6) (trodAll_cons_mk (Below.trod laidOut (by kernel_rfl) (of_decide_eq_true (by kernel_rfl)) k7 bel lt7) (trodAll_cons_mk (shut_bool Ybaf.underlying4 _) (trodAll_cons_mk (shut_bool Ybaf.underlying4 _) (trodAll_cons_mk (Below.trod laidOut (by kernel_rfl) (of_decide_eq_true (by kernel_rfl)) k10 bel lt10) trodAll_mk0))))))))))), vars_read3 enc Ybaf.underlying24 gn0 gt0 (var?_below bel gn0 lt0 v0) trivial gn1 gt1 (var?_below bel gn1 lt1 v1) trivial gn2 gt2 (var?_below bel gn2 lt2 v2) trivial _, bel.frame _, fun h => by cases h⟩

theorem laidOut' : laidOutB Ybaf.pinned.checked.prog = true := laidOut
theorem stops : Ybaf.pinned.checked.prog.stops = ["fmt.Sprintf", "fmt.errorf"] := by kernel_rfl

theorem proved : Rows.LawS6261CWholeToldSaid :=
  Claim7.holds_of_told_tied_any_at .later 3 Ybaf.f3 "fmt.Sprintf" ["fmt.errorf"] [] _ _ _ _ _ (by kernel_rfl) rfl rfl rfl laidOut' (by kernel_rfl) rfl ⟨rfl, rfl, rfl, rfl, rfl, rfl, rfl⟩ rfl rfl (by kernel_rfl) (by kernel_rfl) Ybaf.func3 (by kernel_rfl)
    (of_decide_eq_true (by kernel_rfl)) (of_decide_eq_true (by kernel_rfl)) stops.symm rfl stopKnobs.symm (by kernel_rfl)
    (by kernel_rfl) (by kernel_rfl) (by kernel_rfl) (by kernel_rfl) (by kernel_rfl) (by kernel_rfl) (by kernel_rfl) (by kernel_rfl) (by kernel_rfl) rfl (by kernel_rfl) rfl rfl
    rfl rfl
    rfl (by kernel_rfl) (by kernel_rfl) (by kernel_rfl) (by decide) (by kernel_rfl) lawS6261CWhole_row_tie
    (OpenClaim.moreEntering_of (by kernel_rfl) (by kernel_rfl) (by kernel_rfl) (by kernel_rfl) (by kernel_rfl) (by kernel_rfl) (by kernel_rfl) (by kernel_rfl) (by kernel_rfl) (by kernel_rfl))
    ⟨_, WideRow.started_initial, quiet _⟩
    (fun os started _ H enc _ => lifted os started H enc)

#print axioms proved

end Go.Proofs.YbulkdyqiFmt.lawS6261CWhole
