/-
  THE WALKS of 'MaxFaulty', 'Quorum' and 'LawS6268AWhole'.
-/
import Derived.Test.YbulkdyucFmtRows
import Derived.WalkKit
import Derived.WalkSpells
import Derived.WalkLawsBesides
namespace Go.Proofs.YbulkdyucFmt
open Go.RowKit

set_option maxHeartbeats 400000 in
theorem law_out (n : Int) (w : World) (h : n < 1 ∨ 4611686018427387904 < n) :
    Calls Ybaf.prog 3 #[.int .i64 n] w fun e w' => e = .returned (.bool true) ∧ w' = w := by
  go_enter Ybaf.func3, Ybaf.ntmps3
  by_cases h1 : n < 1
  · go_wp2
    go_ret
    exact ⟨rfl, rfl⟩
  · have h2 : 4611686018427387904 < n := by omega
    go_wp2
    go_ret
    exact ⟨rfl, rfl⟩

set_option maxHeartbeats 400000 in
theorem maxFaulty (n : Int) (w : World) (h1 : 1 ≤ n) (h2 : n ≤ 4611686018427387904) :
    Calls Ybaf.prog 5 #[.int .i64 n] w fun e w' => e = .returned (.int .i64 ((n - 1) / 3)) ∧ w' = w := by
  go_enter Ybaf.func5, Ybaf.ntmps5
  go_wp2
  go_ret
  exact ⟨rfl, rfl⟩

set_option maxHeartbeats 400000 in
theorem quorum (n : Int) (w : World) (h1 : 1 ≤ n) (h2 : n ≤ 4611686018427387904) :
    Calls Ybaf.prog 4 #[.int .i64 n] w fun e w' => e = .returned (.int .i64 ((n + (n - 1) / 3 + 2) / 2)) ∧ w' = w := by
  go_enter Ybaf.func4, Ybaf.ntmps4
  go_wp2_with (go_at_call 5; refine (maxFaulty n w h1 h2).mono ?_; rintro _ _ ⟨rfl, rfl⟩)
  go_ret
  exact ⟨rfl, rfl⟩

set_option maxRecDepth 100000 in
set_option maxHeartbeats 1000000 in
theorem law_exact (f : Int) (w : World) (h1 : 0 ≤ f) (h2 : 3 * f + 1 ≤ 4611686018427387904) :
    Calls Ybaf.prog 3 #[.int .i64 (3 * f + 1)] w fun e w' => e = .returned (.bool true) ∧ w' = w := by
  have e1 : (3 * f + 1) / 3 = f := by omega
  have e2 : (3 * f + 1 + (3 * f + 1 - 1) / 3 + 2) / 2 = 2 * f + 1 := by omega
  go_enter Ybaf.func3, Ybaf.ntmps3
  go_wp2_with (go_at_call 4; refine (quorum (3 * f + 1) w (by omega) h2).mono ?_; rw [e2]; rintro _ _ ⟨rfl, rfl⟩)
  all_goals (go_ret; exact ⟨rfl, rfl⟩)

set_option maxRecDepth 100000 in
set_option maxHeartbeats 1000000 in
theorem law_in (n : Int) (w : World) (h1 : 1 ≤ n) (h2 : n ≤ 4611686018427387904) :
    Calls Ybaf.prog 3 #[.int .i64 n] w fun e w' => e = .returned (.bool true) ∧ w' = w := by
  by_cases h3 : 3 * (n / 3) + 1 > n
  · go_enter Ybaf.func3, Ybaf.ntmps3
    go_wp2_with (go_at_call 4; refine (quorum n w h1 h2).mono ?_; rintro _ _ ⟨rfl, rfl⟩)
    all_goals (go_ret; exact ⟨rfl, rfl⟩)
  · by_cases h4 : n ≤ 3 * (n / 3) + 1
    · obtain ⟨f, rfl⟩ : ∃ f, n = 3 * f + 1 := ⟨n / 3, by omega⟩
      exact law_exact f w (by omega) h2
    · go_enter Ybaf.func3, Ybaf.ntmps3
      go_wp2_with (go_at_call 4; refine (quorum n w h1 h2).mono ?_; rintro _ _ ⟨rfl, rfl⟩)
      all_goals (go_ret; exact ⟨rfl, rfl⟩)

theorem law_any (n : Int) (w : World) : Calls Ybaf.prog 3 #[.int .i64 n] w fun e w' => e = .returned (.bool true) ∧ w' = w := by
  by_cases h : n < 1 ∨ 4611686018427387904 < n
  · exact law_out n w h
  · exact law_in n w (by omega) (by omega)

end Go.Proofs.YbulkdyucFmt
