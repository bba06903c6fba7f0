/-
  THE WALKS of 'zzs6261aeq' (two slices that hold the same bytes: true) and of 'zzs6261aclone'.
-/
import Derived.Test.YbulkdyqiAids
namespace Go.Proofs.Ybulkdyqi
open Go.RowKit

theorem eq_zero (a b : Option Addr) (ca cb : Nat) (w : World) :
    Calls Yba.prog 7 #[.slice a 0 ca, .slice b 0 cb] w fun e w' => e = .returned (.bool true) ∧ ∃ k, w' = w.drewN k := by
  go_enter Yba.func7, Yba.ntmps7
  go_wp2
  go_loop [5] (fun i => i = .int .i64 0) (fun _ => 0)
  case atStart => rfl
  case round =>
    subst hrel
    go_wp2
    go_ret
    exact ⟨rfl, 0, rfl⟩

theorem eq_pos (g h n ca cb : Nat) (zs : List Int) (w : World) (hn : n ≤ maxLen) (hz : zs.length = n)
    (ha : ∀ j, j < n → w.cell? ⟨g, j, none⟩ = some (.int .u8 (zs.getD j 0))) (hb : ∀ j, j < n → w.cell? ⟨h, j, none⟩ = some (.int .u8 (zs.getD j 0))) :
    Calls Yba.prog 7 #[.slice (some ⟨g, 0, none⟩) n ca, .slice (some ⟨h, 0, none⟩) n cb] w fun e w' => e = .returned (.bool true) ∧ ∃ k, w' = w.drewN k := by
  unfold maxLen at hn
  go_enter Yba.func7, Yba.ntmps7
  go_wp2
  go_loopw [5] (fun i wr => ∃ k q : Nat, k ≤ n ∧ i = .int .i64 k ∧ wr = w.drewN q) (fun i _ => n - (intOf i).toNat)
  case atStart => exact ⟨0, 0, Nat.zero_le _, rfl, rfl⟩
  case round =>
    obtain ⟨k, q, hk, rfl, rfl⟩ := hrel
    by_cases hlt : k < n
    · have h1 := ha k hlt
      have h2 := hb k hlt
      have hl : (k : Int) < (n : Int) := by omega
      go_wp2
      go_quiet (fail)
      go_wp2
      go_roundw
      case rel => exact ⟨k + 1, q + _, by omega, by go_num, rfl⟩
      case measure => simp [intOf]; omega
    · go_wp2
      go_ret
      exact ⟨rfl, q, rfl⟩

theorem eq_own {base base' : Nat} {va vb : Value} {n : Nat} {zs : List Int} {w : World} (hn : zs.length = n) (hm : n ≤ maxLen) (ha : w.ownsRow base 5 1 va n (u8s zs)) (hb : w.ownsRow base' 5 1 vb n (u8s zs)) :
    Calls Yba.prog 7 #[va, vb] w fun e w' => e = .returned (.bool true) ∧ ∃ k, w' = w.drewN k := by
  subst hn
  rcases own_shape ha with ⟨rfl, rfl⟩ | ⟨g, ca, rfl, _, _, _, hca⟩ <;> rcases own_shape hb with ⟨rfl, h0⟩ | ⟨h, cb, rfl, _, _, _, hcb⟩
  · exact eq_zero _ _ _ _ _
  · exact eq_zero _ _ _ _ _
  · subst h0; exact eq_zero _ _ _ _ _
  · exact eq_pos _ _ _ _ _ zs _ hm rfl hca hcb

end Go.Proofs.Ybulkdyqi
