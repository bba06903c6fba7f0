/-
  THE WALK of 'LawS6261AWhole'.
-/
import Derived.Test.YbulkdyqiEq
import Derived.Test.YbulkdyqiClone
import Derived.Test.YbulkdyqiPad
namespace Go.Proofs.Ybulkdyqi
open Go.RowKit

theorem wr_new (w : World) (v : Value) (acc n : Int) : Wr (w.alloc (.cells #[v, .int .u64 acc, .int .u64 n] 28)) w.heap.size v acc n := heap_alloc_new w _

theorem block_add (x : Addr) (k : Nat) : (x.add k).block = x.block := by
  unfold Addr.add; split <;> rfl

/-- The expectation under way: k of the bytes 'zs' have been appended. -/
def Exp (w2 : World) (zs : List Int) (k : Nat) (wr : World) : Prop :=
  wr.ownsRow w2.heap.size 5 1 (.slice (some ⟨w2.heap.size, 0, none⟩) k (zs.length + 1)) k (u8s (zs.take k)) ∧ Below w2.heap.size w2 wr

theorem exp_zero {w2 w3 : World} {zs : List Int} (h : w3.ownsRow w2.heap.size 5 1 (.slice (some ⟨w2.heap.size, 0, none⟩) 0 (zs.length + 1)) 0 []) (hg : w2.grownBy w3 none) : Exp w2 zs 0 w3 :=
  ⟨h, (Below.refl _ _).grown hg (Nat.le_refl _) (fun k h => by cases h)⟩

theorem exp_next {w2 wr w4 : World} {zs : List Int} {k : Nat} {b : Int} {o : Obj} (hlt : k < zs.length) (hb : b = zs.getD k 0) (hE : Exp w2 zs k wr)
    (h4 : w4.ownsRow w2.heap.size 5 1 (.slice (some ⟨w2.heap.size, 0, none⟩) (k + 1) (zs.length + 1)) (k + 1) (u8s (zs.take k) ++ [.int .u8 b])) (hg : (wr.alloc o).grownBy w4 (some w2.heap.size)) : Exp w2 zs (k + 1) w4 := by
  refine ⟨?_, ?_⟩
  · have e : u8s (zs.take (k + 1)) = u8s (zs.take k) ++ [.int .u8 b] := by
      rw [List.take_succ_eq_append_getElem hlt, u8s_append, hb]
      simp [u8s, List.getD, hlt]
    rw [e]; exact h4
  · exact (hE.2.alloc hE.2.size _).grown hg (by have := hE.2.size; simp; omega) (fun k h => by simp at h; omega)

theorem and_255 (acc : Int) (h0 : 0 ≤ acc) (h1 : acc ≤ 18446744073709551615) : bits BinOp.and IntKind.u64 acc 255 % 256 = IntKind.u8.wrap acc := by
  have h := bits_and_u64_nat acc.toNat 255 (by omega) (by omega)
  rw [Nat.and_two_pow_sub_one_eq_mod acc.toNat 8, Int.toNat_of_nonneg h0] at h
  have h2 : bits BinOp.and IntKind.u64 acc 255 = ((acc.toNat % 2 ^ 8 : Nat) : Int) := h
  rw [h2, IntKind.wrap_u8]
  omega

theorem ownsRow_drewN {w : World} {base : Nat} {e : TypeId} {size : Nat} {v : Value} {n : Nat} {xs : List Value} (h : w.ownsRow base e size v n xs) (k : Nat) : (w.drewN k).ownsRow base e size v n xs := h

theorem fin_any {w w2 w5 : World} {pb : Nat} {v : Value} {acc n : Int} {m : Nat} {xs : List Value} (hb2 : Below w.heap.size w w2) (hW : Wr w2 pb v acc n) (ho : w2.ownsRow w.heap.size 5 1 v m xs) (hb5 : Below w2.heap.size w2 w5) :
    Wr w5 pb v acc n ∧ w5.ownsRow w.heap.size 5 1 v m xs ∧ Below w.heap.size w w5 := by
  have hpb : pb < w2.heap.size := by
    unfold Wr at hW; exact (Array.getElem?_eq_some_iff.1 hW).1
  refine ⟨?_, ownsRow_of_heap ho (fun g hg => hb5.block g (ho.lt g hg).2), hb2.trans (hb5.mono hb2.size)⟩
  unfold Wr
  rw [hb5.block pb hpb]
  exact hW

theorem fin_pos {w w1' w2 wr w5 : World} {pb g1 len1 cap1 g2 cap2 : Nat} {acc n : Int} {zs : List Int} {o : Obj} (ha : 0 ≤ acc) (ha' : acc ≤ 18446744073709551615) (hb2 : Below w.heap.size w w2)
    (hG : Grown1 w.heap.size pb (some ⟨g1, 0, none⟩) len1 cap1 acc n (zs ++ [IntKind.u8.wrap acc]) g2 cap2 w1' w2) (hE : Below w2.heap.size w2 wr)
    (h5 : w5.ownsRow w2.heap.size 5 1 (.slice (some ⟨w2.heap.size, 0, none⟩) (zs.length + 1) (zs.length + 1)) (zs.length + 1) (u8s zs ++ [.int .u8 (bits BinOp.and IntKind.u64 acc 255 % 256)])) (hg : (wr.alloc o).grownBy w5 (some w2.heap.size)) :
    Wr w5 pb (.slice (some ⟨g2, 0, none⟩) (len1 + 1) cap2) acc n ∧ w5.ownsRow w.heap.size 5 1 (.slice (some ⟨g2, 0, none⟩) (len1 + 1) cap2) (len1 + 1) (u8s (zs ++ [IntKind.u8.wrap acc])) ∧
      w5.ownsRow w2.heap.size 5 1 (.slice (some ⟨w2.heap.size, 0, none⟩) (zs.length + 1) (zs.length + 1)) (zs.length + 1) (u8s (zs ++ [IntKind.u8.wrap acc])) ∧ Below w.heap.size w w5 := by
  have hb5 : Below w2.heap.size w2 w5 := (hE.alloc hE.size _).grown hg (by have := hE.size; simp; omega) (fun k h => by simp at h; omega)
  obtain ⟨r1, r2, r3⟩ := fin_any hb2 hG.1 hG.2.1 hb5
  refine ⟨r1, r2, ?_, r3⟩
  rw [u8s_append, ← and_255 acc ha ha']
  exact h5

theorem clone_nil_abs (w : World) :
    Calls Yba.prog 5 #[.slice none 0 0] w fun e w' => e = .returned (.slice none 0 0) ∧ w'.ownsRow w.heap.size 5 1 (.slice none 0 0) 0 (u8s []) ∧ Below w.heap.size w w' := by
  refine (clone_nil w).mono ?_
  rintro e w' ⟨rfl, rfl⟩
  exact ⟨rfl, World.ownsRow_nil _ _ _ _, Below.refl _ _⟩

theorem fin_pos_nil {w w1' w2 wr w5 : World} {pb g2 cap2 : Nat} {acc n : Int} {o : Obj} (ha : 0 ≤ acc) (ha' : acc ≤ 18446744073709551615) (hb2 : Below w.heap.size w w2)
    (hG : Grown1 w.heap.size pb none 0 0 acc n ([] ++ [IntKind.u8.wrap acc]) g2 cap2 w1' w2) (hE : Below w2.heap.size w2 wr)
    (h5 : w5.ownsRow w2.heap.size 5 1 (.slice (some ⟨w2.heap.size, 0, none⟩) (0 + 1) 1) (0 + 1) ([] ++ [.int .u8 (bits BinOp.and IntKind.u64 acc 255 % 256)])) (hg : (wr.alloc o).grownBy w5 (some w2.heap.size)) :
    Wr w5 pb (.slice (some ⟨g2, 0, none⟩) 1 cap2) acc n ∧ w5.ownsRow w.heap.size 5 1 (.slice (some ⟨g2, 0, none⟩) 1 cap2) 1 (u8s [IntKind.u8.wrap acc]) ∧
      w5.ownsRow w2.heap.size 5 1 (.slice (some ⟨w2.heap.size, 0, none⟩) 1 1) 1 (u8s [IntKind.u8.wrap acc]) ∧ Below w.heap.size w w5 := by
  have hb5 : Below w2.heap.size w2 w5 := (hE.alloc hE.size _).grown hg (by have := hE.size; simp; omega) (fun k h => by simp at h; omega)
  obtain ⟨r1, r2, r3⟩ := fin_any hb2 hG.1 hG.2.1 hb5
  refine ⟨r1, r2, ?_, r3⟩
  rw [and_255 acc ha ha'] at h5
  exact h5

set_option maxHeartbeats 1000000 in
theorem whole_some_pos (x : Addr) (cap : Nat) (zs : List Int) (acc n : Int) (w : World) (hl : zs.length ≤ 1048576) (hn : 0 < n)
    (ha : 0 ≤ acc) (ha' : acc ≤ 18446744073709551615)
    (hc : ∀ j, j < zs.length → w.cell? (x.add j) = some (.int .u8 (zs.getD j 0))) :
    Calls Yba.prog 3 #[.slice (some x) zs.length cap, .int .u64 acc, .int .u64 n] w fun e w' => e = .returned (.bool true) ∧ Below w.heap.size w w' := by
  obtain ⟨i0, hi, hz0, hz1, hz2⟩ := info_parts Yba.info5
  have hl' : (zs.length : Int) ≤ 1048576 := by omega
  go_enter Yba.func3, Yba.ntmps3
  go_wp2_with (first
    | (go_at_call 5; refine (clone_some x cap zs _ hl hc).mono ?_; rintro e w1 ⟨g1, rfl, hown1, hb1⟩)
    | (go_at_call 6; refine (pad_pos w.heap.size w1.heap.size (some ⟨g1, 0, none⟩) zs.length acc n zs _ hn (by omega) hb1.size (wr_new _ _ _ _) (hown1.alloc _)).mono ?_; rintro e w2 ⟨g2, cap2, rfl, hG⟩)
    | (at_make; refine wpList_make_own _ rfl _ _ 22 rfl w2.heap.size 5 i0 (.int .u8 0) 1 Yba.underlying22 hi hz0 hz1 .i64 .i64 _ (zs.length + 1) rfl rfl (by omega) (by rw [hz2]; omega) (by unfold maxLen; omega) (Nat.le_refl _) ?_; intro w3 hown3 hgrow3))
  have hb2 : Below w.heap.size w w2 := (hb1.alloc hb1.size _).trans hG.2.2.1
  go_loopw [9, 10] (fun v i wr => ∃ k : Nat, k ≤ zs.length ∧ i = .int .i64 k ∧ v = .slice (some ⟨w2.heap.size, 0, none⟩) k (zs.length + 1) ∧ Exp w2 zs k wr)
    (fun _ i _ => zs.length - (intOf i).toNat)
  case atStart => exact ⟨0, Nat.zero_le _, rfl, rfl, exp_zero hown3 hgrow3⟩
  case round =>
    obtain ⟨k, hk, rfl, rfl, hE⟩ := hrel
    by_cases hlt : k < zs.length
    · obtain ⟨bk, hbk⟩ : ∃ b, Hid (b = zs.getD k 0) := ⟨_, rfl⟩
      have hcx : wr.cell? (x.add k) = some (.int .u8 bk) := by
        have hxb := World.block_lt_of_cell? w _ (hc k hlt)
        rw [hE.2.cell (p := x.add k) (by have := hb2.size; omega), hb2.cell (p := x.add k) hxb, hbk.out]; exact hc k hlt
      go_wp2_with (at_builtin; refine wpList_append_fits _ rfl (.tmp 32) (.tmp 37) 22 rfl w2.heap.size 5 i0 1 Yba.underlying22 hi hz1 w2.heap.size k (zs.length + 1) (u8s (zs.take k)) rfl (hE.1.alloc _) ⟨wr.heap.size, 0, none⟩ 1 1 [.int .u8 bk] rfl rfl (cell_one_new _ _ _) (by simp [Value.oneCell']) (by omega) ?_; intro w4 hown4 hgrow4)
      have hE' := exp_next hlt hbk.out hE hown4 hgrow4
      clear hown4 hgrow4 hE
      go_roundw
      case rel => exact ⟨k + 1, by omega, by go_num, rfl, hE'⟩
      case measure => simp [intOf]; omega
    · obtain rfl : k = zs.length := by omega
      have hz : (zs.take zs.length) = zs := List.take_length
      have hE1 := hE.1
      rw [hz] at hE1
      have hE2 := hE.2
      clear hE hz
      go_wp2_with (first
        | (at_builtin; refine wpList_append_fits _ rfl (.tmp 41) (.tmp 45) 22 rfl w2.heap.size 5 i0 1 Yba.underlying22 hi hz1 w2.heap.size zs.length (zs.length + 1) (u8s zs) rfl (hE1.alloc _) ⟨wr.heap.size, 0, none⟩ 1 1 [.int .u8 (bits BinOp.and IntKind.u64 acc 255 % 256)] rfl rfl (cell_one_new _ _ _) (by simp [Value.oneCell']) (by omega) ?_; intro w5 hown5 hgrow5; obtain ⟨hW5, hgot5, hexp5, hb5⟩ := fin_pos ha ha' hb2 hG hE2 hown5 hgrow5; obtain ⟨c0, c1, c2, f0, f1, f2⟩ := hW5.cell; clear hown5 hgrow5)
        | (go_at_call 7; refine (eq_own (zs := zs ++ [IntKind.u8.wrap acc]) (n := zs.length + 1) (by simp) (by unfold maxLen; omega) (ownsRow_drewN hgot5 _) (ownsRow_drewN hexp5 _)).mono ?_; rintro e w6 ⟨rfl, q1, rfl⟩)
        | (go_at_call 7; refine (eq_own (zs := zs ++ [IntKind.u8.wrap acc]) (n := zs.length + 1) (by simp) (by unfold maxLen; omega) hgot5 hexp5).mono ?_; rintro e w6 ⟨rfl, q1, rfl⟩))
      go_ret
      exact ⟨rfl, below_drewN hb5 _⟩

set_option maxHeartbeats 1000000 in
theorem whole_nil_pos (acc n : Int) (w : World) (hn : 0 < n)
    (ha : 0 ≤ acc) (ha' : acc ≤ 18446744073709551615) :
    Calls Yba.prog 3 #[.slice none 0 0, .int .u64 acc, .int .u64 n] w fun e w' => e = .returned (.bool true) ∧ Below w.heap.size w w' := by
  obtain ⟨i0, hi, hz0, hz1, hz2⟩ := info_parts Yba.info5
  go_enter Yba.func3, Yba.ntmps3
  go_wp2_with (first
    | (go_at_call 5; refine (clone_nil_abs _).mono ?_; rintro e w1 ⟨rfl, hown1, hb1⟩)
    | (go_at_call 6; refine (pad_pos w.heap.size w1.heap.size none 0 acc n [] _ hn (by simp) hb1.size (wr_new _ _ _ _) (hown1.alloc _)).mono ?_; rintro e w2 ⟨g2, cap2, rfl, hG⟩)
    | (at_make; refine wpList_make_own _ rfl _ _ 22 rfl w2.heap.size 5 i0 (.int .u8 0) 1 Yba.underlying22 hi hz0 hz1 .i64 .i64 _ 1 rfl rfl (by omega) (by rw [hz2]; omega) (by unfold maxLen; omega) (Nat.le_refl _) ?_; intro w3 hown3 hgrow3))
  have hb2 : Below w.heap.size w w2 := (hb1.alloc hb1.size _).trans hG.2.2.1
  go_loopw [9, 10] (fun v i wr => i = .int .i64 0 ∧ v = .slice (some ⟨w2.heap.size, 0, none⟩) 0 1 ∧ Exp w2 [] 0 wr) (fun _ _ _ => 0)
  case atStart => exact ⟨rfl, rfl, exp_zero (zs := []) hown3 hgrow3⟩
  case round =>
      obtain ⟨rfl, rfl, hE⟩ := hrel
      have hE1 := hE.1
      have hE2 := hE.2
      clear hE
      go_wp2_with (first
        | (at_builtin; refine wpList_append_fits _ rfl (.tmp 41) (.tmp 45) 22 rfl w2.heap.size 5 i0 1 Yba.underlying22 hi hz1 w2.heap.size 0 1 [] rfl (hE1.alloc _) ⟨wr.heap.size, 0, none⟩ 1 1 [.int .u8 (bits BinOp.and IntKind.u64 acc 255 % 256)] rfl rfl (cell_one_new _ _ _) (by simp [Value.oneCell']) (by omega) ?_; intro w5 hown5 hgrow5; obtain ⟨hW5, hgot5, hexp5, hb5⟩ := fin_pos_nil ha ha' hb2 hG hE2 hown5 hgrow5; obtain ⟨c0, c1, c2, f0, f1, f2⟩ := hW5.cell; clear hown5 hgrow5)
        | (go_at_call 7; refine (eq_own (zs := [IntKind.u8.wrap acc]) (n := 1) (by simp) (by unfold maxLen; omega) (ownsRow_drewN hgot5 _) (ownsRow_drewN hexp5 _)).mono ?_; rintro e w6 ⟨rfl, q1, rfl⟩)
        | (go_at_call 7; refine (eq_own (zs := [IntKind.u8.wrap acc]) (n := 1) (by simp) (by unfold maxLen; omega) hgot5 hexp5).mono ?_; rintro e w6 ⟨rfl, q1, rfl⟩))
      go_ret
      exact ⟨rfl, below_drewN hb5 _⟩

set_option maxHeartbeats 1000000 in
theorem whole_some_zero (x : Addr) (cap : Nat) (zs : List Int) (acc : Int) (w : World) (hl : zs.length ≤ 1048576)
    (hc : ∀ j, j < zs.length → w.cell? (x.add j) = some (.int .u8 (zs.getD j 0))) :
    Calls Yba.prog 3 #[.slice (some x) zs.length cap, .int .u64 acc, .int .u64 0] w fun e w' => e = .returned (.bool true) ∧ Below w.heap.size w w' := by
  obtain ⟨i0, hi, hz0, hz1, hz2⟩ := info_parts Yba.info5
  have hl' : (zs.length : Int) ≤ 1048576 := by omega
  go_enter Yba.func3, Yba.ntmps3
  go_wp2_with (first
    | (go_at_call 5; refine (clone_some x cap zs _ hl hc).mono ?_; rintro e w1 ⟨g1, rfl, hown1, hb1⟩)
    | (go_at_call 6; refine (pad_zero_abs w.heap.size w1.heap.size (some ⟨g1, 0, none⟩) zs.length acc zs _ (wr_new _ _ _ _) (hown1.alloc _)).mono ?_; rintro e w2 ⟨rfl, hW2, hown2, hb2'⟩)
    | (at_make; refine wpList_make_own _ rfl _ _ 22 rfl w2.heap.size 5 i0 (.int .u8 0) 1 Yba.underlying22 hi hz0 hz1 .i64 .i64 _ (zs.length + 1) rfl rfl (by omega) (by rw [hz2]; omega) (by unfold maxLen; omega) (Nat.le_refl _) ?_; intro w3 hown3 hgrow3))
  have hb2 : Below w.heap.size w w2 := (hb1.alloc hb1.size _).trans hb2'
  go_loopw [9, 10] (fun v i wr => ∃ k : Nat, k ≤ zs.length ∧ i = .int .i64 k ∧ v = .slice (some ⟨w2.heap.size, 0, none⟩) k (zs.length + 1) ∧ Exp w2 zs k wr)
    (fun _ i _ => zs.length - (intOf i).toNat)
  case atStart => exact ⟨0, Nat.zero_le _, rfl, rfl, exp_zero hown3 hgrow3⟩
  case round =>
    obtain ⟨k, hk, rfl, rfl, hE⟩ := hrel
    by_cases hlt : k < zs.length
    · obtain ⟨bk, hbk⟩ : ∃ b, Hid (b = zs.getD k 0) := ⟨_, rfl⟩
      have hcx : wr.cell? (x.add k) = some (.int .u8 bk) := by
        have hxb := World.block_lt_of_cell? w _ (hc k hlt)
        rw [hE.2.cell (p := x.add k) (by have := hb2.size; omega), hb2.cell (p := x.add k) hxb, hbk.out]; exact hc k hlt
      go_wp2_with (at_builtin; refine wpList_append_fits _ rfl (.tmp 32) (.tmp 37) 22 rfl w2.heap.size 5 i0 1 Yba.underlying22 hi hz1 w2.heap.size k (zs.length + 1) (u8s (zs.take k)) rfl (hE.1.alloc _) ⟨wr.heap.size, 0, none⟩ 1 1 [.int .u8 bk] rfl rfl (cell_one_new _ _ _) (by simp [Value.oneCell']) (by omega) ?_; intro w4 hown4 hgrow4)
      have hE' := exp_next hlt hbk.out hE hown4 hgrow4
      clear hown4 hgrow4 hE
      go_roundw
      case rel => exact ⟨k + 1, by omega, by go_num, rfl, hE'⟩
      case measure => simp [intOf]; omega
    · obtain rfl : k = zs.length := by omega
      have hz : (zs.take zs.length) = zs := List.take_length
      have hE1 := hE.1
      rw [hz] at hE1
      have hE2 := hE.2
      clear hE hz
      obtain ⟨hW5, hgot5, hb5⟩ := fin_any hb2 hW2 hown2 hE2
      obtain ⟨c0, c1, c2, f0, f1, f2⟩ := hW5.cell
      have hq0 := fun w => Lib.run_eql_slice_nil (P := Yba.prog) w 22 5 (some x) zs.length cap 0 0 Yba.underlying22
      have hq1 := fun w => Lib.run_eql_slice_nil (P := Yba.prog) w 22 5 (some ⟨g1, 0, none⟩) zs.length zs.length 0 0 Yba.underlying22
      go_wp2_with (first
        | (go_at_call 7; refine (eq_own (zs := zs) (n := zs.length) rfl (by unfold maxLen; omega) (ownsRow_drewN hgot5 _) (ownsRow_drewN hE1 _)).mono ?_; rintro e w6 ⟨rfl, q1, rfl⟩)
        | (go_at_call 7; refine (eq_own (zs := zs) (n := zs.length) rfl (by unfold maxLen; omega) hgot5 hE1).mono ?_; rintro e w6 ⟨rfl, q1, rfl⟩))
      go_ret
      exact ⟨rfl, below_drewN hb5 _⟩

set_option maxHeartbeats 1000000 in
theorem whole_nil_zero (acc : Int) (w : World) :
    Calls Yba.prog 3 #[.slice none 0 0, .int .u64 acc, .int .u64 0] w fun e w' => e = .returned (.bool true) ∧ Below w.heap.size w w' := by
  obtain ⟨i0, hi, hz0, hz1, hz2⟩ := info_parts Yba.info5
  go_enter Yba.func3, Yba.ntmps3
  go_wp2_with (first
    | (go_at_call 5; refine (clone_nil_abs _).mono ?_; rintro e w1 ⟨rfl, hown1, hb1⟩)
    | (go_at_call 6; refine (pad_zero_abs w.heap.size w1.heap.size none 0 acc [] _ (wr_new _ _ _ _) (hown1.alloc _)).mono ?_; rintro e w2 ⟨rfl, hW2, hown2, hb2'⟩)
    | (at_make; refine wpList_make_own _ rfl _ _ 22 rfl w2.heap.size 5 i0 (.int .u8 0) 1 Yba.underlying22 hi hz0 hz1 .i64 .i64 _ 1 rfl rfl (by omega) (by rw [hz2]; omega) (by unfold maxLen; omega) (Nat.le_refl _) ?_; intro w3 hown3 hgrow3))
  have hb2 : Below w.heap.size w w2 := (hb1.alloc hb1.size _).trans hb2'
  go_loopw [9, 10] (fun v i wr => i = .int .i64 0 ∧ v = .slice (some ⟨w2.heap.size, 0, none⟩) 0 1 ∧ Exp w2 [] 0 wr) (fun _ _ _ => 0)
  case atStart => exact ⟨rfl, rfl, exp_zero (zs := []) hown3 hgrow3⟩
  case round =>
      obtain ⟨rfl, rfl, hE⟩ := hrel
      have hE1 := hE.1
      have hE2 := hE.2
      clear hE
      obtain ⟨hW5, hgot5, hb5⟩ := fin_any hb2 hW2 hown2 hE2
      obtain ⟨c0, c1, c2, f0, f1, f2⟩ := hW5.cell
      have hq0 := fun w => Lib.run_eql_slice_nil (P := Yba.prog) w 22 5 none 0 0 0 0 Yba.underlying22
      go_wp2_with (first
        | (go_at_call 7; refine (eq_own (zs := []) (n := 0) rfl (by unfold maxLen; omega) (ownsRow_drewN hgot5 _) (ownsRow_drewN hE1 _)).mono ?_; rintro e w6 ⟨rfl, q1, rfl⟩)
        | (go_at_call 7; refine (eq_own (zs := []) (n := 0) rfl (by unfold maxLen; omega) hgot5 hE1).mono ?_; rintro e w6 ⟨rfl, q1, rfl⟩))
      go_ret
      exact ⟨rfl, below_drewN hb5 _⟩

end Go.Proofs.Ybulkdyqi
