/-
  THE PROOF OF 'Rows.LawS6261AStreamSaid': the frame after the guide's own (proof-skeleton.mjs); the walk is YbulkdyqiStream's.
-/
import Derived.Test.YbulkdyqiRows
import Derived.Test.YbulkdyqiStream
import Derived.WalkKit
import Derived.ProofKit
import Derived.OpenShut
import Derived.ShutString
import Derived.ChangeOld
import Derived.Below
import Derived.Deep.SlicePairs
namespace Go.Proofs.Ybulkdyqi.lawS6261AStream
open Go.ChangeShapes Go.WideShapes Go.ChangeAt Go.RowKit Go.Deep
open Go.ChangeMaps (open_string shut_string)
set_option linter.unusedVariables false

theorem own : ownKnob Yba.prog.godebug = none := by kernel_rfl
theorem laidOut : laidOutB Yba.prog = true := by kernel_rfl

/-- What the walk is told of a slice of bytes that came in. -/
def IsRow (k : IntKind) (w : World) (a : Option Addr) (len cap : Nat) (zs : List Int) : Prop :=
  (a = none ∧ len = 0 ∧ cap = 0 ∧ zs = []) ∨
  ∃ x, a = some x ∧ len ≤ cap ∧ cap ≤ maxLen ∧ zs.length = cap ∧ (∀ i, i < zs.length → w.cell? (x.add i) = some (.int k (zs.getD i 0))) ∧ ∀ n ∈ zs, (Lit.int k n).wf = true

/-- What the walk is told of the slice of steps that came in. -/
def IsSteps (w : World) (a : Option Addr) (len : Nat) (ps : List (Nat × Nat)) : Prop :=
  ps.length = len ∧ ∀ j, j < ps.length → ∃ y, a = some y ∧ w.cell? (y.add (j * 2)) = some (.int .u64 (ps.getD j (0, 0)).1) ∧ w.cell? ⟨(y.add (j * 2)).block, (y.add (j * 2)).off + 1, none⟩ = some (.int .u8 (ps.getD j (0, 0)).2) ∧ (ps.getD j (0, 0)).1 < 18446744073709551616 ∧ (ps.getD j (0, 0)).2 < 256

theorem add_succ (a : Addr) (n : Nat) : a.add (n + 1) = ⟨(a.add n).block, (a.add n).off + 1, none⟩ := by
  unfold Addr.add
  by_cases h : n = 0
  · subst h; simp
  · simp [h, Nat.add_assoc]

/-! ### THE WALK -/
theorem walk (a0 : Option Addr) (len0 cap0 : Nat) (z0 : List Int) (a1 : Option Addr) (len1 cap1 : Nat) (ps : List (Nat × Nat)) (w : World) (w0 : IsRow .u8 w a0 len0 cap0 z0) (w1 : len1 ≤ 4096 → IsSteps w a1 len1 ps) :
    Calls Yba.prog 4 #[.slice a0 len0 cap0, .slice a1 len1 cap1] w fun e w' => e = .returned (.bool true) ∧ Below w.heap.size w w' := by
  by_cases hbig : 1048576 < len0
  · have hbig' : (1048576 : Int) < (len0 : Int) := by omega
    go_enter Yba.func4, Yba.ntmps4
    go_wp2
    go_ret
    exact ⟨rfl, Below.refl _ _⟩
  · by_cases hbig1 : 4096 < len1
    · have hbig' : ¬ (1048576 : Int) < (len0 : Int) := by omega
      have hbig2 : (4096 : Int) < (len1 : Int) := by omega
      go_enter Yba.func4, Yba.ntmps4
      go_wp2
      go_ret
      exact ⟨rfl, Below.refl _ _⟩
    · obtain ⟨hp, hd⟩ := w1 (by omega)
      subst hp
      rcases w0 with ⟨rfl, rfl, rfl, rfl⟩ | ⟨x, rfl, hlc, hm, hz, hcell, hwz⟩
      · exact stream none a1 0 cap1 [] ps w (by simp) (fun _ => ⟨rfl, rfl⟩) (by omega) (fun j hj => by simp at hj) hd
      · obtain ⟨zs, hzl, hzc⟩ : ∃ zs : List Int, zs.length = len0 ∧ ∀ j, j < zs.length → w.cell? (x.add j) = some (.int .u8 (zs.getD j 0)) := by
          refine ⟨z0.take len0, by simp; omega, fun j hj => ?_⟩
          have hj' : j < len0 := by simp at hj; omega
          rw [hcell j (by omega)]
          simp [List.getD, hj']
        subst hzl
        exact stream (some x) a1 cap0 cap1 zs ps w (by omega) (fun h => by cases h) (by omega) (fun j hj => ⟨x, rfl, hzc j hj⟩) hd

/-! ### THE ROW's STEP -/
set_option maxRecDepth 100000 in
theorem lifted (os : Os) (started : os.Started) (H : Type) (enc : TypeId × Value → H) :
    ReturnsInHanded {} Yba.checked os 4 .any (Rows.lawS6261AStreamSpec.pre6 enc Yba.prog Yba.f4 Rows.lawS6261AStreamRow.domain false) (Rows.lawS6261AStreamSpec.post enc Yba.prog Yba.f4 false true false false) := by
  refine returnsInHanded_of_change (C := Yba.checked) own started (by kernel_rfl) Yba.func4
    (ChangeSpec.witness6 (enc := enc) (C := Yba.checked) false ⟨#[], #[.slice none 0 0, .slice none 0 0], []⟩ 8 (by kernel_rfl) (by kernel_rfl) (by kernel_rfl) (by kernel_rfl)) ?_
  intro W base args ds gs before hval0 hW hcnd _
  have hval : ∀ (j : Nat) t v, Yba.f4.params[j]? = some t → args[j]? = some v → Value.okWide Yba.prog W .any base t v := hval0
  have hW' := hW
  obtain ⟨p, q, hA0, hV, rfl, hfz, hnd⟩ := hW
  have hA : DataW.TrodAll enc Yba.prog W 0 (fun _ => true) true Yba.f4.params.toList args.toList ds p := hA0
  rw [Yba.params4] at hA hval
  obtain ⟨v0, vs0, d0, ds0, p0, q0, hargs, rfl, rfl, h0, r0⟩ := trodAll_cons hA
  obtain ⟨v1, vs1, d1, ds1, p1, q1, rfl, rfl, rfl, h1, r1⟩ := trodAll_cons r0
  obtain ⟨rfl, rfl, rfl⟩ := trodAll_nil r1
  obtain rfl : args = #[v0, v1] := by cases args; simp_all
  obtain ⟨rfl, rfl⟩ := trodVars_none hV
  obtain ⟨a0, len0, cap0, rfl⟩ := okWide_slice Yba.underlying22 (hval 0 22 v0 rfl rfl)
  obtain ⟨a1, len1, cap1, rfl⟩ := okWide_slice Yba.underlying32 (hval 1 32 v1 rfl rfl)
  have k0 := h0
  have k1 := h1
  have lt0 : ∀ x ∈ p0, x.block < W.heap.size := by obtain ⟨m, hm⟩ := k0; exact DataW.trod_lt m _ _ _ hm
  have lt1 : ∀ x ∈ p1, x.block < W.heap.size := by obtain ⟨m, hm⟩ := k1; exact DataW.trod_lt m _ _ _ hm
  obtain ⟨z0, w0⟩ : ∃ zs, IsRow .u8 W a0 len0 cap0 zs := by
    obtain ⟨fuel, hf⟩ := h0
    rcases open_ints Yba.underlying22 Yba.underlying5 (by kernel_rfl) hf with ⟨hcs, _⟩ | ⟨x, l, c, zs, hcs, _, hl, hm, hz, _, hcell, hwz⟩
    · simp [Value.cells] at hcs
      obtain ⟨rfl, rfl, rfl⟩ := hcs
      exact ⟨[], .inl ⟨rfl, rfl, rfl, rfl⟩⟩
    · simp [Value.cells] at hcs
      obtain ⟨rfl, rfl, rfl⟩ := hcs
      exact ⟨zs, .inr ⟨_, rfl, hl, hm, by simpa using hz, hcell, hwz⟩⟩
  obtain ⟨ps, w1⟩ : ∃ ps, IsSteps W a1 len1 ps := by
    obtain ⟨fuel, hf⟩ := h1
    rcases open_slice_pairs Yba.underlying32 Yba.underlying34 (by kernel_rfl) rfl rfl (by kernel_rfl) (by kernel_rfl) hf with ⟨hcs, _⟩ | ⟨y, l, c, m, n, V0, V1, D0, D1, P0, P1, hcs, _, hl, hm, hmm, _, hx⟩
    · simp [Value.cells] at hcs
      obtain ⟨rfl, rfl, rfl⟩ := hcs
      exact ⟨[], rfl, fun j hj => by simp at hj⟩
    · simp [Value.cells] at hcs
      obtain ⟨rfl, rfl, rfl⟩ := hcs
      simp only [if_true] at hmm
      refine ⟨(List.range len1).map fun i => ((intOf (V0 i)).toNat, (intOf (V1 i)).toNat), by simp, fun j hj => ?_⟩
      have hj' : j < len1 := by simpa using hj
      obtain ⟨c0, c1, t0, t1⟩ := hx j (by omega)
      obtain ⟨a, e0, _, wa⟩ := DataW.trod_int Yba.underlying23 t0
      obtain ⟨b, e1, _, wb⟩ := DataW.trod_int Yba.underlying5 t1
      have f0 : V0 j = .int .u64 a := by simpa using e0
      have f1 : V1 j = .int .u8 b := by simpa using e1
      have ba := bounds_u64 wa
      have bb := bounds_u8 wb
      have eg : ((List.range len1).map fun i => ((intOf (V0 i)).toNat, (intOf (V1 i)).toNat)).getD j (0, 0) = (a.toNat, b.toNat) := by
        simp [List.getD, hj', f0, f1, intOf]
      rw [eg]
      refine ⟨y, rfl, ?_, ?_, by show a.toNat < _; omega, by show b.toNat < _; omega⟩
      · rw [c0, f0]; simp; omega
      · rw [← add_succ, c1, f1]; simp; omega
  clear hA0 hval0
  refine (walk a0 len0 cap0 z0 a1 len1 cap1 ps W w0 (fun _ => w1)).mono fun e W' ⟨he, bel⟩ => ?_
  subst he
  exact ⟨_, rfl, _, _, _, [], _, [], hW', trodAll_mk1 (shut_bool Yba.underlying4 _), (trodAll_cons_mk (Below.trod laidOut (by kernel_rfl) (of_decide_eq_true (by kernel_rfl)) k0 bel lt0) (trodAll_cons_mk (Below.trod laidOut (by kernel_rfl) (of_decide_eq_true (by kernel_rfl)) k1 bel lt1) trodAll_mk0)), rfl, bel.frame _, fun h => by cases h⟩

theorem over : Rows.lawS6261AStreamRow.holds Yba.pinned (OpenSpec.ofChange Rows.lawS6261AStreamSpec) :=
  OpenClaim.holds_of_wide 4 Yba.f4 rfl rfl rfl rfl rfl rfl rfl ⟨rfl, rfl, rfl, rfl, rfl⟩ rfl rfl rfl rfl rfl (by kernel_rfl) Yba.func4 (by kernel_rfl)
    (of_decide_eq_true (by kernel_rfl)) (by unfold Func.isWrapper; first | (rw [if_pos (by decide +kernel)]; kernel_rfl) | (rw [if_neg (by decide +kernel)]; exact ⟨rfl, rfl⟩))
    (fun os started H enc _ => lifted os started H enc)

/-- THE STATEMENT -/
theorem proved : Rows.LawS6261AStreamSaid := over
#print axioms proved
end Go.Proofs.Ybulkdyqi.lawS6261AStream
