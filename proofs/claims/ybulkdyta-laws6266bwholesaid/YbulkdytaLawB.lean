/-
  THE WALK of 'LawS6266BWhole', pick by pick.
-/
import Derived.Test.YbulkdytaLess2
import Derived.Test.YbulkdytaLawB0
import Derived.Deep.RegionHeld3
import Derived.Deep.DrawnRows
import Derived.Deep.QuietTactic
import Derived.BigQuiet
namespace Go.Proofs.Ybulkdyta
open Go.RowKit

attribute [local go_sem ↓] Go.wp_at_zero Go.wp_at_succ

set_option maxHeartbeats 1000000 in
set_option maxRecDepth 100000 in
theorem law00 (k₁ i₁ : Int) (t₁ : ByteArray) (k₂ i₂ : Int) (t₂ : ByteArray) (p₁ p₂ sel : Int) (w : World) (hs : sel % 4 = 0) (h0 : 0 ≤ sel) (h9 : sel ≤ 255) :
    Calls Yba.prog 4 #[.agg #[.int .u8 k₁, .int .i64 i₁, .string t₁], .agg #[.int .u8 k₂, .int .i64 i₂, .string t₂], .int .i64 p₁, .int .i64 p₂, .int .u8 sel] w fun e w' =>
      e = .returned (.bool true) ∧ Below w.heap.size w w' := by
  go_enter Yba.func4, Yba.ntmps4
  go_wp2_with fail
  refine (less00 _ _ k₁ i₁ t₁ k₂ i₂ t₂ p₁ p₂ (lay9 w k₁ i₁ t₁ k₂ i₂ t₂ p₁ p₂) (lay9_nine w k₁ i₁ t₁ k₂ i₂ t₂ p₁ p₂).two).mono ?_
  rintro _ w1 ⟨rfl, bel1⟩
  have N1 := (lay9_nine w k₁ i₁ t₁ k₂ i₂ t₂ p₁ p₂).later bel1
  have B1 : Below w.heap.size w w1 := (lay9_below w k₁ i₁ t₁ k₂ i₂ t₂ p₁ p₂).trans (bel1.mono (lay9_below w k₁ i₁ t₁ k₂ i₂ t₂ p₁ p₂).size)
  clear bel1
  generalize hn : w.heap.size = n at N1 B1 ⊢
  generalize hk : keyLess k₁ i₁ t₁ k₁ i₁ t₁ p₁ p₁ = kl
  have K : ∀ w2, Below w1.drew.heap.size w1.drew w2 → Nine w2 n k₁ i₁ t₁ k₂ i₂ t₂ p₁ p₂ ∧ Below n w w2 := fun w2 bel =>
    ⟨N1.later ⟨bel.os, bel.tape, bel.output, bel.size, bel.block⟩, B1.drew.trans (bel.mono (by have := N1.size; show n ≤ w1.heap.size; omega))⟩
  obtain ⟨⟨ka0, ka1, ka2⟩, ⟨kb0, kb1, kb2⟩, ⟨c0, c1, c2, c3, c4, c5, d0, d1⟩, x0, x1, x2, x3, x4, ⟨e0, e1, e2, e3, e4, e5, f0, f1⟩, size⟩ := N1
  go_wp2_with fail
  go_region_held3 (fun w' => w'.cell? ⟨n + 1 + 1 + 1 + 1 + 1 + 1 + 1, 0, none⟩ = some (.int .u8 k₁) ∧ w'.cell? ⟨n + 1 + 1 + 1 + 1 + 1 + 1 + 1, 1, none⟩ = some (.int .i64 i₁) ∧ w'.cell? ⟨n + 1 + 1 + 1 + 1 + 1 + 1 + 1, 2, none⟩ = some (.string t₁) ∧ w'.cell? ⟨n + 1 + 1 + 1 + 1 + 1 + 1 + 1, 3, none⟩ = some (.int .u8 k₂) ∧ w'.cell? ⟨n + 1 + 1 + 1 + 1 + 1 + 1 + 1, 4, none⟩ = some (.int .i64 i₂) ∧ w'.cell? ⟨n + 1 + 1 + 1 + 1 + 1 + 1 + 1, 5, none⟩ = some (.string t₂) ∧ w'.cell? ⟨n + 1 + 1 + 1 + 1 + 1 + 1 + 1 + 1, 0, none⟩ = some (.int .i64 p₁) ∧ w'.cell? ⟨n + 1 + 1 + 1 + 1 + 1 + 1 + 1 + 1, 1, none⟩ = some (.int .i64 p₂))
    (first | go_keep | (obtain ⟨⟨_, _, _, _, _, _, _, _, ⟨e0, e1, e2, e3, e4, e5, f0, f1⟩, _⟩, _⟩ := K w2 (by assumption); exact ⟨e0, e1, e2, e3, e4, e5, f0, f1⟩))
    (first | (go_at_call 12; refine (own_less _ _ _ _ _ _ _ _ _).mono ?_; rw [hk]; rintro _ w2 ⟨rfl, bel⟩))
  obtain ⟨⟨⟨ka0, ka1, ka2⟩, ⟨kb0, kb1, kb2⟩, ⟨c0, c1, c2, c3, c4, c5, d0, d1⟩, x0, x1, x2, x3, x4, _, _⟩, B2⟩ := K w2 bel
  clear K bel
  go_wp2_with fail
  go_quiet (fail)
  go_wp2_with fail
  go_ret
  exact ⟨rfl, by rw [hn]; exact ⟨B2.os, B2.tape, B2.output, B2.size, B2.block⟩⟩

set_option maxHeartbeats 1000000 in
set_option maxRecDepth 100000 in
theorem law01 (k₁ i₁ : Int) (t₁ : ByteArray) (k₂ i₂ : Int) (t₂ : ByteArray) (p₁ p₂ sel : Int) (w : World) (hs : sel % 4 = 1) (h0 : 0 ≤ sel) (h9 : sel ≤ 255) :
    Calls Yba.prog 4 #[.agg #[.int .u8 k₁, .int .i64 i₁, .string t₁], .agg #[.int .u8 k₂, .int .i64 i₂, .string t₂], .int .i64 p₁, .int .i64 p₂, .int .u8 sel] w fun e w' =>
      e = .returned (.bool true) ∧ Below w.heap.size w w' := by
  go_enter Yba.func4, Yba.ntmps4
  go_wp2_with fail
  refine (less01 _ _ k₁ i₁ t₁ k₂ i₂ t₂ p₁ p₂ (lay9 w k₁ i₁ t₁ k₂ i₂ t₂ p₁ p₂) (lay9_nine w k₁ i₁ t₁ k₂ i₂ t₂ p₁ p₂).two).mono ?_
  rintro _ w1 ⟨rfl, bel1⟩
  have N1 := (lay9_nine w k₁ i₁ t₁ k₂ i₂ t₂ p₁ p₂).later bel1
  have B1 : Below w.heap.size w w1 := (lay9_below w k₁ i₁ t₁ k₂ i₂ t₂ p₁ p₂).trans (bel1.mono (lay9_below w k₁ i₁ t₁ k₂ i₂ t₂ p₁ p₂).size)
  clear bel1
  generalize hn : w.heap.size = n at N1 B1 ⊢
  generalize hk : keyLess k₁ i₁ t₁ k₂ i₂ t₂ p₁ p₂ = kl
  have K : ∀ w2, Below w1.drew.heap.size w1.drew w2 → Nine w2 n k₁ i₁ t₁ k₂ i₂ t₂ p₁ p₂ ∧ Below n w w2 := fun w2 bel =>
    ⟨N1.later ⟨bel.os, bel.tape, bel.output, bel.size, bel.block⟩, B1.drew.trans (bel.mono (by have := N1.size; show n ≤ w1.heap.size; omega))⟩
  obtain ⟨⟨ka0, ka1, ka2⟩, ⟨kb0, kb1, kb2⟩, ⟨c0, c1, c2, c3, c4, c5, d0, d1⟩, x0, x1, x2, x3, x4, ⟨e0, e1, e2, e3, e4, e5, f0, f1⟩, size⟩ := N1
  go_wp2_with fail
  go_region_held3 (fun w' => w'.cell? ⟨n + 1 + 1 + 1 + 1 + 1 + 1 + 1, 0, none⟩ = some (.int .u8 k₁) ∧ w'.cell? ⟨n + 1 + 1 + 1 + 1 + 1 + 1 + 1, 1, none⟩ = some (.int .i64 i₁) ∧ w'.cell? ⟨n + 1 + 1 + 1 + 1 + 1 + 1 + 1, 2, none⟩ = some (.string t₁) ∧ w'.cell? ⟨n + 1 + 1 + 1 + 1 + 1 + 1 + 1, 3, none⟩ = some (.int .u8 k₂) ∧ w'.cell? ⟨n + 1 + 1 + 1 + 1 + 1 + 1 + 1, 4, none⟩ = some (.int .i64 i₂) ∧ w'.cell? ⟨n + 1 + 1 + 1 + 1 + 1 + 1 + 1, 5, none⟩ = some (.string t₂) ∧ w'.cell? ⟨n + 1 + 1 + 1 + 1 + 1 + 1 + 1 + 1, 0, none⟩ = some (.int .i64 p₁) ∧ w'.cell? ⟨n + 1 + 1 + 1 + 1 + 1 + 1 + 1 + 1, 1, none⟩ = some (.int .i64 p₂))
    (first | go_keep | (obtain ⟨⟨_, _, _, _, _, _, _, _, ⟨e0, e1, e2, e3, e4, e5, f0, f1⟩, _⟩, _⟩ := K w2 (by assumption); exact ⟨e0, e1, e2, e3, e4, e5, f0, f1⟩))
    (first | (go_at_call 12; refine (own_less _ _ _ _ _ _ _ _ _).mono ?_; rw [hk]; rintro _ w2 ⟨rfl, bel⟩))
  obtain ⟨⟨⟨ka0, ka1, ka2⟩, ⟨kb0, kb1, kb2⟩, ⟨c0, c1, c2, c3, c4, c5, d0, d1⟩, x0, x1, x2, x3, x4, _, _⟩, B2⟩ := K w2 bel
  clear K bel
  go_wp2_with fail
  go_quiet (fail)
  go_wp2_with fail
  go_ret
  exact ⟨rfl, by rw [hn]; exact ⟨B2.os, B2.tape, B2.output, B2.size, B2.block⟩⟩

set_option maxHeartbeats 1000000 in
set_option maxRecDepth 100000 in
theorem law10 (k₁ i₁ : Int) (t₁ : ByteArray) (k₂ i₂ : Int) (t₂ : ByteArray) (p₁ p₂ sel : Int) (w : World) (hs : sel % 4 = 2) (h0 : 0 ≤ sel) (h9 : sel ≤ 255) :
    Calls Yba.prog 4 #[.agg #[.int .u8 k₁, .int .i64 i₁, .string t₁], .agg #[.int .u8 k₂, .int .i64 i₂, .string t₂], .int .i64 p₁, .int .i64 p₂, .int .u8 sel] w fun e w' =>
      e = .returned (.bool true) ∧ Below w.heap.size w w' := by
  go_enter Yba.func4, Yba.ntmps4
  go_wp2_with fail
  refine (less10 _ _ k₁ i₁ t₁ k₂ i₂ t₂ p₁ p₂ (lay9 w k₁ i₁ t₁ k₂ i₂ t₂ p₁ p₂) (lay9_nine w k₁ i₁ t₁ k₂ i₂ t₂ p₁ p₂).two).mono ?_
  rintro _ w1 ⟨rfl, bel1⟩
  have N1 := (lay9_nine w k₁ i₁ t₁ k₂ i₂ t₂ p₁ p₂).later bel1
  have B1 : Below w.heap.size w w1 := (lay9_below w k₁ i₁ t₁ k₂ i₂ t₂ p₁ p₂).trans (bel1.mono (lay9_below w k₁ i₁ t₁ k₂ i₂ t₂ p₁ p₂).size)
  clear bel1
  generalize hn : w.heap.size = n at N1 B1 ⊢
  generalize hk : keyLess k₂ i₂ t₂ k₁ i₁ t₁ p₂ p₁ = kl
  have K : ∀ w2, Below w1.drew.heap.size w1.drew w2 → Nine w2 n k₁ i₁ t₁ k₂ i₂ t₂ p₁ p₂ ∧ Below n w w2 := fun w2 bel =>
    ⟨N1.later ⟨bel.os, bel.tape, bel.output, bel.size, bel.block⟩, B1.drew.trans (bel.mono (by have := N1.size; show n ≤ w1.heap.size; omega))⟩
  obtain ⟨⟨ka0, ka1, ka2⟩, ⟨kb0, kb1, kb2⟩, ⟨c0, c1, c2, c3, c4, c5, d0, d1⟩, x0, x1, x2, x3, x4, ⟨e0, e1, e2, e3, e4, e5, f0, f1⟩, size⟩ := N1
  go_wp2_with fail
  go_region_held3 (fun w' => w'.cell? ⟨n + 1 + 1 + 1 + 1 + 1 + 1 + 1, 0, none⟩ = some (.int .u8 k₁) ∧ w'.cell? ⟨n + 1 + 1 + 1 + 1 + 1 + 1 + 1, 1, none⟩ = some (.int .i64 i₁) ∧ w'.cell? ⟨n + 1 + 1 + 1 + 1 + 1 + 1 + 1, 2, none⟩ = some (.string t₁) ∧ w'.cell? ⟨n + 1 + 1 + 1 + 1 + 1 + 1 + 1, 3, none⟩ = some (.int .u8 k₂) ∧ w'.cell? ⟨n + 1 + 1 + 1 + 1 + 1 + 1 + 1, 4, none⟩ = some (.int .i64 i₂) ∧ w'.cell? ⟨n + 1 + 1 + 1 + 1 + 1 + 1 + 1, 5, none⟩ = some (.string t₂) ∧ w'.cell? ⟨n + 1 + 1 + 1 + 1 + 1 + 1 + 1 + 1, 0, none⟩ = some (.int .i64 p₁) ∧ w'.cell? ⟨n + 1 + 1 + 1 + 1 + 1 + 1 + 1 + 1, 1, none⟩ = some (.int .i64 p₂))
    (first | go_keep | (obtain ⟨⟨_, _, _, _, _, _, _, _, ⟨e0, e1, e2, e3, e4, e5, f0, f1⟩, _⟩, _⟩ := K w2 (by assumption); exact ⟨e0, e1, e2, e3, e4, e5, f0, f1⟩))
    (first | (go_at_call 12; refine (own_less _ _ _ _ _ _ _ _ _).mono ?_; rw [hk]; rintro _ w2 ⟨rfl, bel⟩))
  obtain ⟨⟨⟨ka0, ka1, ka2⟩, ⟨kb0, kb1, kb2⟩, ⟨c0, c1, c2, c3, c4, c5, d0, d1⟩, x0, x1, x2, x3, x4, _, _⟩, B2⟩ := K w2 bel
  clear K bel
  go_wp2_with fail
  go_quiet (fail)
  go_wp2_with fail
  go_ret
  exact ⟨rfl, by rw [hn]; exact ⟨B2.os, B2.tape, B2.output, B2.size, B2.block⟩⟩

set_option maxHeartbeats 1000000 in
set_option maxRecDepth 100000 in
theorem law11 (k₁ i₁ : Int) (t₁ : ByteArray) (k₂ i₂ : Int) (t₂ : ByteArray) (p₁ p₂ sel : Int) (w : World) (hs : sel % 4 = 3) (h0 : 0 ≤ sel) (h9 : sel ≤ 255) :
    Calls Yba.prog 4 #[.agg #[.int .u8 k₁, .int .i64 i₁, .string t₁], .agg #[.int .u8 k₂, .int .i64 i₂, .string t₂], .int .i64 p₁, .int .i64 p₂, .int .u8 sel] w fun e w' =>
      e = .returned (.bool true) ∧ Below w.heap.size w w' := by
  go_enter Yba.func4, Yba.ntmps4
  go_wp2_with fail
  refine (less11 _ _ k₁ i₁ t₁ k₂ i₂ t₂ p₁ p₂ (lay9 w k₁ i₁ t₁ k₂ i₂ t₂ p₁ p₂) (lay9_nine w k₁ i₁ t₁ k₂ i₂ t₂ p₁ p₂).two).mono ?_
  rintro _ w1 ⟨rfl, bel1⟩
  have N1 := (lay9_nine w k₁ i₁ t₁ k₂ i₂ t₂ p₁ p₂).later bel1
  have B1 : Below w.heap.size w w1 := (lay9_below w k₁ i₁ t₁ k₂ i₂ t₂ p₁ p₂).trans (bel1.mono (lay9_below w k₁ i₁ t₁ k₂ i₂ t₂ p₁ p₂).size)
  clear bel1
  generalize hn : w.heap.size = n at N1 B1 ⊢
  generalize hk : keyLess k₂ i₂ t₂ k₂ i₂ t₂ p₂ p₂ = kl
  have K : ∀ w2, Below w1.drew.heap.size w1.drew w2 → Nine w2 n k₁ i₁ t₁ k₂ i₂ t₂ p₁ p₂ ∧ Below n w w2 := fun w2 bel =>
    ⟨N1.later ⟨bel.os, bel.tape, bel.output, bel.size, bel.block⟩, B1.drew.trans (bel.mono (by have := N1.size; show n ≤ w1.heap.size; omega))⟩
  obtain ⟨⟨ka0, ka1, ka2⟩, ⟨kb0, kb1, kb2⟩, ⟨c0, c1, c2, c3, c4, c5, d0, d1⟩, x0, x1, x2, x3, x4, ⟨e0, e1, e2, e3, e4, e5, f0, f1⟩, size⟩ := N1
  go_wp2_with fail
  go_region_held3 (fun w' => w'.cell? ⟨n + 1 + 1 + 1 + 1 + 1 + 1 + 1, 0, none⟩ = some (.int .u8 k₁) ∧ w'.cell? ⟨n + 1 + 1 + 1 + 1 + 1 + 1 + 1, 1, none⟩ = some (.int .i64 i₁) ∧ w'.cell? ⟨n + 1 + 1 + 1 + 1 + 1 + 1 + 1, 2, none⟩ = some (.string t₁) ∧ w'.cell? ⟨n + 1 + 1 + 1 + 1 + 1 + 1 + 1, 3, none⟩ = some (.int .u8 k₂) ∧ w'.cell? ⟨n + 1 + 1 + 1 + 1 + 1 + 1 + 1, 4, none⟩ = some (.int .i64 i₂) ∧ w'.cell? ⟨n + 1 + 1 + 1 + 1 + 1 + 1 + 1, 5, none⟩ = some (.string t₂) ∧ w'.cell? ⟨n + 1 + 1 + 1 + 1 + 1 + 1 + 1 + 1, 0, none⟩ = some (.int .i64 p₁) ∧ w'.cell? ⟨n + 1 + 1 + 1 + 1 + 1 + 1 + 1 + 1, 1, none⟩ = some (.int .i64 p₂))
    (first | go_keep | (obtain ⟨⟨_, _, _, _, _, _, _, _, ⟨e0, e1, e2, e3, e4, e5, f0, f1⟩, _⟩, _⟩ := K w2 (by assumption); exact ⟨e0, e1, e2, e3, e4, e5, f0, f1⟩))
    (first | (go_at_call 12; refine (own_less _ _ _ _ _ _ _ _ _).mono ?_; rw [hk]; rintro _ w2 ⟨rfl, bel⟩))
  obtain ⟨⟨⟨ka0, ka1, ka2⟩, ⟨kb0, kb1, kb2⟩, ⟨c0, c1, c2, c3, c4, c5, d0, d1⟩, x0, x1, x2, x3, x4, _, _⟩, B2⟩ := K w2 bel
  clear K bel
  go_wp2_with fail
  go_quiet (fail)
  go_wp2_with fail
  go_ret
  exact ⟨rfl, by rw [hn]; exact ⟨B2.os, B2.tape, B2.output, B2.size, B2.block⟩⟩

theorem law_any (k₁ i₁ : Int) (t₁ : ByteArray) (k₂ i₂ : Int) (t₂ : ByteArray) (p₁ p₂ sel : Int) (w : World) (h0 : 0 ≤ sel) (h9 : sel ≤ 255) :
    Calls Yba.prog 4 #[.agg #[.int .u8 k₁, .int .i64 i₁, .string t₁], .agg #[.int .u8 k₂, .int .i64 i₂, .string t₂], .int .i64 p₁, .int .i64 p₂, .int .u8 sel] w fun e w' =>
      e = .returned (.bool true) ∧ Below w.heap.size w w' := by
  have h : sel % 4 = 0 ∨ sel % 4 = 1 ∨ sel % 4 = 2 ∨ sel % 4 = 3 := by omega
  rcases h with h | h | h | h
  · exact law00 k₁ i₁ t₁ k₂ i₂ t₂ p₁ p₂ sel w h h0 h9
  · exact law01 k₁ i₁ t₁ k₂ i₂ t₂ p₁ p₂ sel w h h0 h9
  · exact law10 k₁ i₁ t₁ k₂ i₂ t₂ p₁ p₂ sel w h h0 h9
  · exact law11 k₁ i₁ t₁ k₂ i₂ t₂ p₁ p₂ sel w h h0 h9

end Go.Proofs.Ybulkdyta
