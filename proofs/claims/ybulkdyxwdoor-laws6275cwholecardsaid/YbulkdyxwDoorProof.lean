/-
  THE PROOF OF 'Rows.LawS6275CWholeCardSaid': the row's step over YbulkdyxwDoorLaw's walk; the tied card by the builder.
-/
import Derived.Test.YbulkdyxwDoorLaw
import Derived.Test.YbulkdyxwDoorTie
import Derived.Test.YbulkdyxwDoorCards
import Derived.ProofKit
import Derived.OpenShut
import Derived.ShutString
import Derived.LaidMore
import Derived.Lay
import Derived.SevenTiedAt
import Derived.Stop.Joined
import Derived.Stop.LaidErr
namespace Go.Proofs.YbulkdyxwDoor.lawS6275CWhole
open Go.ChangeShapes Go.WideShapes Go.ChangeAt Go.RowKit
open Go.ChangeMaps (open_string shut_string)
set_option linter.unusedVariables false

theorem own : ownKnob Ybad.prog.godebug = none := by kernel_rfl
theorem laidOut : laidOutB Ybad.prog = true := by kernel_rfl
theorem cells59 : Ybad.prog.cellsOf 59 = 1 := by kernel_rfl
theorem cells9 : Ybad.prog.cellsOf 9 = 1 := by kernel_rfl

/-- The one row of that name. -/
theorem row57 (nm : String) (hnm : nm = (String.singleton (Char.ofNat 42)) ++ "errors.errorString") (u : TypeId) (h : Ybad.prog.typeName? 3 u = some nm) : u = 57 :=
  typeName_ptr_named (nm := "errors.errorString") (by kernel_rfl) (by kernel_rfl) (by decide) u (by rw [h, hnm]; kernel_rfl)

set_option maxRecDepth 100000 in
theorem lifted (os : Os) (started : os.Started) (H : Type) (enc : TypeId × Value → H) :
    ReturnsInHanded {} Ybad.checked os 3 .any (fun w args => (Rows.lawS6275CWholeSpec.pre enc Ybad.prog Ybad.f3 Rows.lawS6275CWholeRow.domain false w args ∧ laidMetH Ybad.prog Rows.lawS6275CWholeRow.laid w) ∧ sizedMet enc Ybad.prog Ybad.f3 (OpenSpec.ofChange Rows.lawS6275CWholeSpec) false w args)
      (Rows.lawS6275CWholeSpec.post enc Ybad.prog Ybad.f3 false true false false) := by
  refine returnsInHanded_of_change_and (C := Ybad.checked) (X := fun w _ => laidMetH Ybad.prog Rows.lawS6275CWholeRow.laid w) (fun _ _ _ hh h => h.of_heap hh) own started (by kernel_rfl) Ybad.func3
    (ChangeSpec.witness_shaped (enc := enc) (C := Ybad.checked) (os := os) (X := fun w _ => laidMetH Ybad.prog Rows.lawS6275CWholeRow.laid w) false (World.laidAll Ybad.prog os Rows.lawS6275CWholeRow.laid) #[.string ⟨#[]⟩] 8 (World.laidAll_os _ _ _)
      (World.shaped_of_ZipB (by kernel_rfl) (by kernel_rfl)) (by kernel_rfl) (by kernel_rfl) (by kernel_rfl)
      (by rw [MakeChecks.laidMetH_plain _ _ _ (by kernel_rfl)]; exact laidMet_laidAll _ (by kernel_rfl) (by kernel_rfl))) ?_
  intro W base args ds gs before hval0 hW hc _ hL _
  have hval : ∀ (j : Nat) t v, Ybad.f3.params[j]? = some t → args[j]? = some v → Value.okWide Ybad.prog W .any base t v := hval0
  have hW' := hW
  obtain ⟨p, q, hA0, hV, rfl, _, _⟩ := hW
  have hA : DataW.TrodAll enc Ybad.prog W 0 (fun _ => true) true Ybad.f3.params.toList args.toList ds p := hA0
  rw [Ybad.params3] at hA hval
  obtain ⟨v0, d0, rfl, rfl, h0⟩ := trodAll_one hA
  obtain ⟨rfl, rfl⟩ := trodVars_none hV
  obtain ⟨s, rfl, rfl, rfl, hs⟩ := open_string Ybad.underlying9 (hval 0 9 v0 rfl rfl) h0
  clear hA0 hval0
  have hL' : laidMet Ybad.prog Rows.lawS6275CWholeRow.laid W := by
    have h := hL
    rw [MakeChecks.laidMetH_plain _ _ _ (by kernel_rfl)] at h
    exact h
  have gn1 : Ybad.prog.globalNamed "strconv.ErrSyntax" = some 1 := by kernel_rfl
  have gn2 : Ybad.prog.globalNamed "strconv.ErrRange" = some 2 := by kernel_rfl
  obtain ⟨a1, s1, hv1, -, -, -⟩ := laid_sentinel (g := 2) (ti := 28) (tp := 57) (te := 59) (ts := 9) hL'.tail.tail.tail gn2 (by kernel_rfl) Ybad.underlying28 (row57 _ (by decide)) Ybad.underlying57 Ybad.underlying59 rfl rfl Ybad.underlying9 cells59 cells9
  obtain ⟨a0, s0, hv0, -, -, -⟩ := laid_sentinel (g := 1) (ti := 28) (tp := 57) (te := 59) (ts := 9) hL'.tail.tail.tail.tail gn1 (by kernel_rfl) Ybad.underlying28 (row57 _ (by decide)) Ybad.underlying57 Ybad.underlying59 rfl rfl Ybad.underlying9 cells59 cells9
  refine (law_any s _ _ W (by simpa using World.var?_cell gn1 hv0 0) (Or.inr ⟨_, _, rfl⟩) (by simpa using World.var?_cell gn2 hv1 0) (Or.inr ⟨_, _, rfl⟩)).mono fun e W' ⟨he, bel⟩ => ?_
  subst he
  exact ⟨_, rfl, _, _, _, [], [], [], hW', trodAll_mk1 (shut_bool Ybad.underlying4 _), trodAll_mk1 (shut_string Ybad.underlying9 hs), rfl, bel.frame _, fun h => by cases h⟩

theorem over : Rows.LawS6275CWholeSaid :=
  OpenClaim.holds_of_wide 3 Ybad.f3 rfl rfl rfl rfl rfl rfl rfl ⟨rfl, rfl, rfl, rfl, rfl⟩ rfl rfl rfl rfl rfl (by kernel_rfl) Ybad.func3 (by kernel_rfl)
    (of_decide_eq_true (by kernel_rfl)) (by unfold Func.isWrapper; first | (rw [if_pos (by decide +kernel)]; kernel_rfl) | (rw [if_neg (by decide +kernel)]; exact ⟨rfl, rfl⟩))
    (fun os started H enc _ => lifted os started H enc)

/-- THE STATEMENT. -/
theorem proved : Rows.LawS6275CWholeCardSaid :=
  Claim7.holds_tied_plain_at .later [] [.data, .data, .data, .sentinel, .sentinel] true (true, "78c471023242f1a6202dde8c812e2220318e4748a13f876971539a4d59ebe017") true
    over (fun _ h => by cases h) (by kernel_rfl) (fun _ h => by cases h) lawS6275CWhole_row_tie rfl ⟨rfl, rfl⟩ (by kernel_rfl) rfl
    (fun f fn hf hfn => by
      obtain rfl : f = 3 := Option.some.inj ((show Ybad.prog.funcNamed "example.com/stakewarden/stakewarden/internal/madelog.LawS6275CWhole" = some 3 by kernel_rfl).symm.trans hf) |>.symm
      obtain rfl : fn = Ybad.f3 := (Option.some.inj (Ybad.func3.symm.trans hfn)).symm
      exact ⟨by kernel_rfl, fun j t ht => by
        rw [Ybad.params3] at ht
        have h3 : t = 9 := by
          rcases j with _ | j
          · simpa using ht.symm
          · simp at ht
        subst h3
        exact (show Ybad.prog.wantsStandIn 9 = false by kernel_rfl)⟩)
    (by kernel_rfl)

#print axioms proved
end Go.Proofs.YbulkdyxwDoor.lawS6275CWhole
