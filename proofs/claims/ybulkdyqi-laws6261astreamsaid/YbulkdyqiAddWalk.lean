/-
  THE WALK of '(*bitWriter).add'.
-/
import Derived.Test.YbulkdyqiAdd
import Derived.Deep.LoopGhost
namespace Go.Proofs.Ybulkdyqi
open Go.RowKit Plain

theorem or_shl (A v N k : Nat) (hN : N < 8) (hA : A < 2 ^ N) (hv : v < 2 ^ k) (hk : k ≤ 32) : bits BinOp.or IntKind.u64 (A : Int) (IntKind.u64.wrap ((v : Int) * 2 ^ N)) = ((A + v * 2 ^ N : Nat) : Int) := by
  have h1 : v * 2 ^ N < 2 ^ (k + N) := by
    rw [Nat.pow_add]; exact Nat.mul_lt_mul_of_pos_right hv (Nat.two_pow_pos N)
  have h2 : 2 ^ (k + N) ≤ 2 ^ 39 := Nat.pow_le_pow_right (by decide) (by omega)
  have h3 : 2 ^ N ≤ 2 ^ 7 := Nat.pow_le_pow_right (by decide) (by omega)
  have e : ((v : Int) * 2 ^ N) = ((v * 2 ^ N : Nat) : Int) := by simp
  rw [e, IntKind.wrap_u64]
  have e2 : (((v * 2 ^ N : Nat) : Int) % 18446744073709551616) = ((v * 2 ^ N : Nat) : Int) := by omega
  rw [e2, bits_or_u64_nat _ _ (by omega) (by omega), Nat.mul_comm v, or_add A v N hA]

set_option maxHeartbeats 1000000 in
theorem add_any (base pb : Nat) (ao : Option Addr) (cap A N v k : Nat) (zs : List Int) (w : World) (hN : N < 8) (hA : A < 2 ^ N) (hv : v < 2 ^ k) (hk : k ≤ 32) (hl : zs.length ≤ 1900000) (hbp : base ≤ pb)
    (hw : Wr w pb (.slice ao zs.length cap) A N) (hown : w.ownsRow base 5 1 (.slice ao zs.length cap) zs.length (u8s zs)) :
    Calls Yba.prog 8 #[.pointer (some ⟨pb, 0, none⟩), .int .u64 v, .int .u64 k] w fun e w' => e = .returned (.tuple #[]) ∧
      ∃ ao' cap', Fed base pb (.slice ao zs.length cap) w (.slice ao' (zs.length + (N + k) / 8) cap') (((A + v * 2 ^ N) / 256 ^ ((N + k) / 8) : Nat) : Int) (((N + k) % 8 : Nat) : Int) (zs ++ byts (A + v * 2 ^ N) ((N + k) / 8)) w' := by
  obtain ⟨c0, c1, c2, f0, f1, f2⟩ := hw.cell
  have HX := or_shl A v N k hN hA hv hk
  have hX : A + v * 2 ^ N < 2 ^ 40 := by
    have := lt_next A v N k hA hv
    exact Nat.lt_of_lt_of_le this (Nat.pow_le_pow_right (by decide) (by omega))
  obtain ⟨X, eX⟩ : ∃ X, Hid (X = A + v * 2 ^ N) := ⟨_, rfl⟩
  rw [← eX.out] at HX hX ⊢
  have hX' : (X : Int) ≤ 18446744073709551615 := by omega
  have F0 : Hid (Fed base pb (.slice ao zs.length cap) w (.slice ao zs.length cap) (X : Int) ((N : Int) + (k : Int)) zs (((w.setCell ⟨pb, 1, none⟩ (.int .u64 (X : Int))).setCell ⟨pb, 2, none⟩ (.int .u64 ((N : Int) + (k : Int)))).drew)) := (((Fed.refl hw hown).acc hbp).num hbp).drew
  go_enter Yba.func8, Yba.ntmps8
  go_wp2
  go_region
  go_wp2
  go_loopg [] ((N + k) / 8) (fun r wr => ∃ m ao' cap', m + r = (N + k) / 8 ∧ Fed base pb (.slice ao zs.length cap) w (.slice ao' (zs.length + m) cap') ((X / 256 ^ m : Nat) : Int) ((N + k - 8 * m : Nat) : Int) (zs ++ byts X m) wr)
  case atStart =>
    refine ⟨0, ao, cap, by omega, ?_⟩
    have h := F0.out
    simpa [byts] using h
  case round =>
    clear F0 HX c0 c1 c2 f0 f1 f2
    obtain ⟨m, ao1, cap1, hm, hF⟩ := hrel
    obtain ⟨c, hc⟩ : ∃ c, Hid (c = X / 256 ^ m) := ⟨_, rfl⟩
    obtain ⟨d, hd⟩ : ∃ d, Hid (d = N + k - 8 * m) := ⟨_, rfl⟩
    obtain ⟨ys, hy⟩ : ∃ ys, Hid (ys = zs ++ byts X m) := ⟨_, rfl⟩
    have hyl : ys.length = zs.length + m := by rw [hy.out]; simp [byts_length]
    rw [← hc.out, ← hd.out, ← hy.out, ← hyl] at hF
    have hcX : c ≤ X := by rw [hc.out]; exact Nat.div_le_self _ _
    have HY : Hid (ys.length = zs.length + m) := hyl
    clear hyl
    obtain ⟨c0, c1, c2, f0, f1, f2⟩ := hF.wr.cell
    have hd40 : d ≤ 40 := by rw [hd.out]; omega
    by_cases h8 : 8 ≤ d
    · have hpb := hF.wr.lt
      have ca0 : ∀ o, (wr.alloc o).cell? ⟨pb, 0, none⟩ = some (.slice ao1 ys.length cap1) := fun o => by rw [World.cell?_alloc_past _ _ _ hpb]; exact c0
      have hl2 : ys.length ≤ 2000000 := by rw [HY.out]; omega
      have h8' : (8 : Int) ≤ (d : Int) := by omega
      go_wp2
      go_region_law (refine step_feed rfl (.tmp 36) (.tmp 42) rfl wr base pb ao1 cap1 c d ys (IntKind.u8.wrap c) rfl (by simp [Act.eval]) (by simp [Act.eval]) hl2 hbp hF.wr hF.own ?_; intro g cap' w1 hG hW1 c0' c1' c2' f0' f1' f2')
      all_goals go_wp2
      all_goals
        go_roundg (gk - 1)
        case measure => have := hd.out; omega
        case rel =>
          refine ⟨m + 1, some ⟨g, 0, none⟩, cap', by have := hd.out; omega, ?_⟩
          have h := ((hF.trans hG.out).acc (acc' := (c : Int) / 256) hbp).num (n' := (d : Int) - 8) hbp
          have e1 : ((X / 256 ^ (m + 1) : Nat) : Int) = (c : Int) / 256 := by rw [div_step, ← hc.out]; simp
          have e2 : ((N + k - 8 * (m + 1) : Nat) : Int) = (d : Int) - 8 := by have := hd.out; omega
          have e3 : zs ++ byts X (m + 1) = ys ++ [IntKind.u8.wrap c] := by
            rw [byts_succ, ← List.append_assoc, ← hy.out, byt, ← hc.out, IntKind.wrap_u8]; simp
          have e4 : zs.length + (m + 1) = ys.length + 1 := by have := HY.out; omega
          rw [e1, e2, e3, e4]
          exact h
    · go_wp2
      go_end0
      refine ⟨rfl, ao1, cap1, ?_⟩
      have em : (N + k) / 8 = m := by have := hd.out; omega
      rw [hc.out, hd.out, HY.out, hy.out] at hF
      have e2 : (N + k) % 8 = N + k - 8 * m := by have := hd.out; omega
      rw [e2, em]
      exact hF

end Go.Proofs.Ybulkdyqi
