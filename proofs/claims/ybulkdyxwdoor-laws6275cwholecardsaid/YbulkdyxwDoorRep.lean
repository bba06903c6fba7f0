/-
  THE WALK of bytes.Repeat at one byte and twenty.
-/
import Derived.Test.YbulkdyxwDoorRows
import Derived.WalkKit
import Derived.WalkSpells
import Derived.WalkLawsBesides
import Derived.Lib.SlBuf
import Derived.Lib.MakeNoZero
import Derived.Deep.RegionLaw
namespace Go.Proofs.YbulkdyxwDoor
open Go.RowKit

set_option maxHeartbeats 400000 in
set_option maxRecDepth 100000 in
theorem mul64 (w : World) : Calls Ybad.prog 18 #[.int .u64 1, .int .u64 20] w fun e w' => e = .returned (.tuple #[.int .u64 0, .int .u64 20]) ∧ w' = w := by
  go_enter Ybad.func18, Ybad.ntmps18
  go_wp2
  go_ret2
  exact ⟨rfl, rfl⟩

set_option maxHeartbeats 400000 in
set_option maxRecDepth 100000 in
theorem mul (w : World) : Calls Ybad.prog 10 #[.int .u64 1, .int .u64 20] w fun e w' => e = .returned (.tuple #[.int .u64 0, .int .u64 20]) ∧ w' = w := by
  go_enter Ybad.func10, Ybad.ntmps10
  go_wp2_with (go_at_call 18; refine (mul64 _).mono ?_; rintro _ _ ⟨rfl, rfl⟩)
  go_ret2
  exact ⟨rfl, rfl⟩

theorem info5 : (Ybad.prog.info? 5).map (·.size) = some 1 := by kernel_rfl

/-- The buffer of twenty cells, the first 'n' of them filled. -/
def Fill (w0 wr : World) (h n : Nat) (x : UInt8) : Prop := Lib.Buf w0 wr h 20 (List.replicate n x)

/-- 'copy(nb[n:], nb[:n])'. -/
theorem fill_next {w0 wr : World} {h n m : Nat} {x : UInt8} (hF : Fill w0 wr h n x) (hn : n < 20) (hp : 0 < n) (hm : m = min (20 - n) n) (ty : TypeId) :
    ∃ wr', (Builtin.copy_ #[24, 24] ty #[.slice (some ⟨h, n, none⟩) (20 - n) (20 - n), .slice (some ⟨h, 0, none⟩) n 20]).run Ybad.prog wr = .ok (.int .i64 (m : Int)) wr' ∧ Fill w0 wr' h (n + m) x := by
  have hmm : m ≤ 20 - n ∧ m ≤ n := by omega
  have hb : Lib.Buf w0 wr h 20 (List.replicate n x) := hF
  have hr := run_copy_cells (P := Ybad.prog) wr 24 24 ty 5 h n (20 - n) (20 - n) ⟨h, 0, none⟩ n 20 ((List.replicate m x).map fun x => Value.int .u8 (x.toNat : Int)) Ybad.underlying24 info5 (by rw [List.length_map, List.length_replicate, hm]; exact Nat.min_comm _ _)
    (fun j u hj => by
      rw [List.getElem?_map] at hj
      obtain ⟨y, hy, rfl⟩ := Option.map_eq_some_iff.1 hj
      have hj' : j < m := by simpa using (List.getElem?_eq_some_iff.1 hy).1
      have hy' : y = x := by
        rw [List.getElem?_replicate, if_pos hj'] at hy
        simpa using hy.symm
      subst hy'
      have := hb.holds j y (by rw [List.getElem?_replicate, if_pos (by omega)])
      rw [Addr.add_lit, Nat.zero_add]
      exact this)
    (fun j hj => by rw [List.length_map, List.length_replicate] at hj; exact hb.there _ (by omega)) (fun j hj => by rw [List.length_map, List.length_replicate] at hj; exact hb.free _ (by omega))
    (fun u hu' => by obtain ⟨y, _, rfl⟩ := List.mem_map.1 hu'; rfl)
  rw [List.length_map, List.length_replicate] at hr
  refine ⟨_, hr, ?_⟩
  have hin := World.cell?_setCells_in h ((List.replicate m x).map fun x => Value.int .u8 (x.toNat : Int)) n wr (fun j hj => by rw [List.length_map, List.length_replicate] at hj; exact hb.there _ (by omega))
  have hout := World.cell?_setCells_out h ((List.replicate m x).map fun x => Value.int .u8 (x.toNat : Int)) n wr
  show Lib.Buf w0 _ h 20 (List.replicate (n + m) x)
  refine ⟨?_, ?_, ?_, ?_, by rw [List.length_replicate]; omega⟩
  · exact Lib.below_setCells h (Nat.le_refl _) _ _ hb.below
  · intro j hj
    by_cases h1 : n ≤ j ∧ j < n + m
    · obtain ⟨d, rfl⟩ : ∃ d, j = n + d := ⟨j - n, by omega⟩
      rw [hin d (by rw [List.length_map, List.length_replicate]; omega)]
      rfl
    · rw [hout ⟨h, j, none⟩ (fun _ _ => by rw [List.length_map, List.length_replicate]; show j < _ ∨ _ ≤ j; omega)]
      exact hb.there j hj
  · intro j hj
    rw [World.frozen?_setCells]
    exact hb.free j hj
  · intro j y hy
    have hj' : j < n + m := by simpa using (List.getElem?_eq_some_iff.1 hy).1
    have hy' : y = x := by
      rw [List.getElem?_replicate, if_pos hj'] at hy
      simpa using hy.symm
    subst hy'
    by_cases h1 : j < n
    · rw [hout ⟨h, j, none⟩ (fun _ _ => Or.inl h1)]
      exact hb.holds j y (by rw [List.getElem?_replicate, if_pos h1])
    · obtain ⟨d, rfl⟩ : ∃ d, j = n + d := ⟨j - n, by omega⟩
      rw [hin d (by rw [List.length_map, List.length_replicate]; omega)]
      simp

theorem fill_drew {w0 wr : World} {h n : Nat} {x : UInt8} (hF : Fill w0 wr h n x) : Fill w0 wr.drew h n x :=
  ⟨hF.below.drew, hF.there, hF.free, hF.holds, hF.fits⟩

/-- The loop's relation. -/
def Rep (w0 : World) (x : UInt8) (i : Value) (wr : World) : Prop :=
  ∃ n : Nat, (n = 1 ∨ n = 2 ∨ n = 4 ∨ n = 8 ∨ n = 16 ∨ n = 20) ∧ i = .int .i64 n ∧ Fill w0 wr w0.heap.size n x

set_option maxHeartbeats 800000 in
set_option maxRecDepth 100000 in
theorem repeat20 (b o cap : Nat) (x : UInt8) (w : World) (hc : w.cell? ⟨b, o, none⟩ = some (.int .u8 x.toNat)) :
    Calls Ybad.prog 7 #[.slice (some ⟨b, o, none⟩) 1 cap, .int .i64 20] w fun e w' => ∃ h, e = .returned (.slice (some ⟨h, 0, none⟩) 20 20) ∧ w.heap.size ≤ h ∧ Below w.heap.size w w' ∧ ∀ j, j < 20 → w'.cell? ⟨h, j, none⟩ = some (.int .u8 x.toNat) := by
  obtain ⟨cs, hrunM, hle, _⟩ := Lib.run_makeNoZero (P := Ybad.prog) w #[3] 24 5 Ybad.underlying24 20 (by omega)
  have hcall : (callFunc 11 #[.int .i64 20]).run Ybad.prog w = .ok (.value (.slice (some ⟨w.heap.size, 0, none⟩) 20 cs.size)) ((w.alloc (.cells cs 5)).drewN 2) := by
    rw [run_callFunc_extern Ybad.func11 (by kernel_rfl) (by kernel_rfl) (by kernel_rfl) (e := Extern.BytealgMakeNoZero.makeNoZero #[3] #[24]) (by kernel_rfl)]
    rw [show ((20 : Int)) = ((20 : Nat) : Int) from rfl, hrunM]
    rfl
  clear hrunM
  have i1 : (20 : Int) ≤ (cs.size : Int) := by omega
  have B0 := Lib.Buf.start w cs 5 20 2 hle
  have hv : Lib.HoldsBytes w (.slice (some ⟨b, o, none⟩) 1 cap) [x] := by
    refine ⟨some ⟨b, o, none⟩, cap, rfl, (fun h => by cases h), ?_⟩
    intro a ha j y hj
    obtain rfl := Option.some.inj ha
    have hj0 : j = 0 := by
      have := (List.getElem?_eq_some_iff.1 hj).1
      simpa using this
    subst hj0
    have hy : x = y := by simpa using hj
    subst hy
    simpa [Addr.add] using hc
  obtain ⟨w1, hr1, B1⟩ := Lib.copy_part (P := Ybad.prog) w _ w.heap.size 20 [] [x] (.slice (some ⟨b, o, none⟩) 1 cap) 24 3 5 Ybad.underlying24 info5 (Nat.le_refl _) B0 hv (by simp)
  rw [List.length_nil, Lib.tailV_zero] at hr1
  have F1 : Fill w w1 w.heap.size 1 x := B1
  clear B0 B1 hv
  go_enter Ybad.func7, Ybad.ntmps7
  go_wp2_with (first
    | (go_at_call 10; refine (mul w).mono ?_; rintro _ w3 ⟨rfl, hw3⟩; subst hw3)
    | (at_builtin; refine Lib.wpList_copy_run _ rfl _ _ 24 24 rfl _ _ rfl rfl hr1 ?_)
    | (refine Lib.wpList_copy_run _ rfl _ _ 24 24 rfl _ _ rfl rfl hr1 ?_))
  go_loopw [10] (fun i wr => Rep w3 x i wr) (fun i _ => 20 - (intOf i).toNat)
  case atStart => exact ⟨1, .inl rfl, rfl, F1⟩
  case round =>
    obtain ⟨n, hn, rfl, F⟩ := hrel
    rcases hn with rfl | rfl | rfl | rfl | rfl | rfl
    · obtain ⟨w2, hr, F2⟩ := fill_next (n := 1) (m := 1) (fill_drew F) (by omega) (by omega) (by omega) 3
      have hmin : min (1 : Int) 20 = 1 := by decide
      simp only [Nat.reduceSub, Nat.reduceAdd] at hr F2
      go_wp2_with fail
      go_region_law (refine Lib.wp_copy_run wr.drew (.tmp 70) (.tmp 73) 24 24 rfl (.slice (some ⟨w3.heap.size, 1, none⟩) 19 19) (.slice (some ⟨w3.heap.size, 0, none⟩) 1 20) (by simp [Act.eval, Act.put]) (by simp [Act.eval, Act.put]) hr ?_)
      have hw : IntKind.i64.wrap 2 = 2 := by decide
      have hrep : Rep w3 x (.int .i64 2) w2 := ⟨2, .inr (.inl rfl), rfl, F2⟩
      go_wp2
      simp [Act.put, intOf, hw, hrep]
    · obtain ⟨w2, hr, F2⟩ := fill_next (n := 2) (m := 2) (fill_drew F) (by omega) (by omega) (by omega) 3
      have hmin : min (2 : Int) 20 = 2 := by decide
      simp only [Nat.reduceSub, Nat.reduceAdd] at hr F2
      go_wp2_with fail
      go_region_law (refine Lib.wp_copy_run wr.drew (.tmp 70) (.tmp 73) 24 24 rfl (.slice (some ⟨w3.heap.size, 2, none⟩) 18 18) (.slice (some ⟨w3.heap.size, 0, none⟩) 2 20) (by simp [Act.eval, Act.put]) (by simp [Act.eval, Act.put]) hr ?_)
      have hw : IntKind.i64.wrap 4 = 4 := by decide
      have hrep : Rep w3 x (.int .i64 4) w2 := ⟨4, .inr (.inr (.inl rfl)), rfl, F2⟩
      go_wp2
      simp [Act.put, intOf, hw, hrep]
    · obtain ⟨w2, hr, F2⟩ := fill_next (n := 4) (m := 4) (fill_drew F) (by omega) (by omega) (by omega) 3
      have hmin : min (4 : Int) 20 = 4 := by decide
      simp only [Nat.reduceSub, Nat.reduceAdd] at hr F2
      go_wp2_with fail
      go_region_law (refine Lib.wp_copy_run wr.drew (.tmp 70) (.tmp 73) 24 24 rfl (.slice (some ⟨w3.heap.size, 4, none⟩) 16 16) (.slice (some ⟨w3.heap.size, 0, none⟩) 4 20) (by simp [Act.eval, Act.put]) (by simp [Act.eval, Act.put]) hr ?_)
      have hw : IntKind.i64.wrap 8 = 8 := by decide
      have hrep : Rep w3 x (.int .i64 8) w2 := ⟨8, .inr (.inr (.inr (.inl rfl))), rfl, F2⟩
      go_wp2
      simp [Act.put, intOf, hw, hrep]
    · obtain ⟨w2, hr, F2⟩ := fill_next (n := 8) (m := 8) (fill_drew F) (by omega) (by omega) (by omega) 3
      have hmin : min (8 : Int) 20 = 8 := by decide
      simp only [Nat.reduceSub, Nat.reduceAdd] at hr F2
      go_wp2_with fail
      go_region_law (refine Lib.wp_copy_run wr.drew (.tmp 70) (.tmp 73) 24 24 rfl (.slice (some ⟨w3.heap.size, 8, none⟩) 12 12) (.slice (some ⟨w3.heap.size, 0, none⟩) 8 20) (by simp [Act.eval, Act.put]) (by simp [Act.eval, Act.put]) hr ?_)
      have hw : IntKind.i64.wrap 16 = 16 := by decide
      have hrep : Rep w3 x (.int .i64 16) w2 := ⟨16, .inr (.inr (.inr (.inr (.inl rfl)))), rfl, F2⟩
      go_wp2
      simp [Act.put, intOf, hw, hrep]
    · obtain ⟨w2, hr, F2⟩ := fill_next (n := 16) (m := 4) (fill_drew F) (by omega) (by omega) (by omega) 3
      have hmin : min (16 : Int) 20 = 16 := by decide
      simp only [Nat.reduceSub, Nat.reduceAdd] at hr F2
      go_wp2_with fail
      go_region_law (refine Lib.wp_copy_run wr.drew (.tmp 70) (.tmp 73) 24 24 rfl (.slice (some ⟨w3.heap.size, 16, none⟩) 4 4) (.slice (some ⟨w3.heap.size, 0, none⟩) 16 20) (by simp [Act.eval, Act.put]) (by simp [Act.eval, Act.put]) hr ?_)
      have hw : IntKind.i64.wrap 20 = 20 := by decide
      have hrep : Rep w3 x (.int .i64 20) w2 := ⟨20, .inr (.inr (.inr (.inr (.inr (rfl))))), rfl, F2⟩
      go_wp2
      simp [Act.put, intOf, hw, hrep]
    · go_wp2
      go_ret
      exact ⟨_, rfl, Nat.le_refl _, F.below, fun j hj => F.holds j x (by rw [List.getElem?_replicate, if_pos hj])⟩

end Go.Proofs.YbulkdyxwDoor
