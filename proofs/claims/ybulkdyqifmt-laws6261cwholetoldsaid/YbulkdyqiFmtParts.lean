/-
  PARTS: bytes.Equal, the clone, slices.Grow at this seat's dump.
-/
import Derived.Test.YbulkdyqiFmtErr
import Derived.Laws.BytesArg
import Derived.Shelf.Bytes.SlSmallAll
import Derived.Lib.AppendZerosOnto
import Derived.Laws.CopyOwn
namespace Go.Proofs.YbulkdyqiFmt
open Go.RowKit

theorem Ybaf.info5 : (Ybaf.prog.info? 5).map (fun i => (i.zero, i.size, i.bytes)) = some (some (.int .u8 0), 1, 1) := by kernel_rfl
theorem Ybaf.size5 : (Ybaf.prog.info? 5).map (·.size) = some 1 := by kernel_rfl

/-- The cells of a list of bytes. -/
def u8s (zs : List Int) : List Value := zs.map (Value.int .u8)
theorem u8s_length (zs : List Int) : (u8s zs).length = zs.length := by simp [u8s]
theorem u8s_append (xs ys : List Int) : u8s (xs ++ ys) = u8s xs ++ u8s ys := by simp [u8s]
theorem u8s_get (zs : List Int) (j : Nat) (h : j < zs.length) : (u8s zs)[j]? = some (.int .u8 (zs.getD j 0)) := by
  simp [u8s, List.getD, h]
theorem u8s_one (zs : List Int) : ∀ u ∈ u8s zs, u.oneCell' = true := ints_oneCell _ _

/-- A slice at 'p' of n bytes reads as 'xs'. -/
def Has (w : World) (p : Option Addr) (n : Nat) (xs : List Int) : Prop :=
  xs.length = n ∧ ∀ j, j < n → ∃ x, p = some x ∧ w.cell? (x.add j) = some (.int .u8 (xs.getD j 0))

theorem Has.later {w w' : World} {p : Option Addr} {n B : Nat} {xs : List Int} (h : Has w p n xs) (hB : w.heap.size ≤ B) (hb : Below B w w') : Has w' p n xs :=
  ⟨h.1, fun j hj => by
    obtain ⟨x, hx, hc⟩ := h.2 j hj
    exact ⟨x, hx, by rw [hb.cell (by have := World.block_lt_of_cell? w _ hc; omega)]; exact hc⟩⟩

theorem Has.cells {w : World} {x : Addr} {n : Nat} {xs : List Int} (h : Has w (some x) n xs) : ∀ j u, (u8s xs)[j]? = some u → w.cell? (x.add j) = some u := by
  intro j u hj
  have hl : j < xs.length := by
    have := (List.getElem?_eq_some_iff.1 hj).1
    rwa [u8s_length] at this
  obtain ⟨y, hy, hc⟩ := h.2 j (by rw [← h.1]; exact hl)
  obtain rfl : x = y := by simpa using hy
  rw [hc, ← u8s_get _ _ hl]; exact hj

theorem Has.at {w : World} {p : Option Addr} {n : Nat} {xs : List Int} (h : Has w p n xs) (hn : 0 < n) : ∃ b o, p = some ⟨b, o, none⟩ ∧ ∀ j, j < n → w.cell? ⟨b, o + j, none⟩ = some (.int .u8 (xs.getD j 0)) := by
  obtain ⟨x, rfl, hc0⟩ := h.2 0 hn
  obtain ⟨b, o, s⟩ := x
  have hs : s = none := by
    have := World.cell?_spot hc0
    simpa [Addr.add] using this
  subst hs
  refine ⟨b, o, rfl, fun j hj => ?_⟩
  obtain ⟨y, hy, hc⟩ := h.2 j hj
  obtain rfl : (⟨b, o, none⟩ : Addr) = y := by simpa using hy
  rw [Addr.add_lit] at hc
  exact hc

theorem Has.nil (w : World) (p : Option Addr) : Has w p 0 [] := ⟨rfl, fun j hj => by omega⟩

theorem convert_has {w : World} {p : Option Addr} {n c : Nat} {xs : List Int} (h : Has w p n xs) : (convert 22 9 (.slice p n c)).run Ybaf.prog w = .ok (.string (strOfNums xs)) w := by
  rcases Nat.eq_zero_or_pos n with hn | hn
  · subst hn
    obtain rfl : xs = [] := List.eq_nil_of_length_eq_zero h.1
    exact run_convert_bytes_zero w 22 5 Ybaf.underlying22 Ybaf.underlying5 p c 9 Ybaf.underlying9
  · obtain ⟨b, o, rfl, hc⟩ := h.at hn
    exact run_convert_bytes_arg (P := Ybaf.prog) w 22 5 Ybaf.underlying22 Ybaf.underlying5 b o n c xs h.1 hc 9 Ybaf.underlying9

/-- bytes.Equal at two slices that hold the same bytes. -/
theorem equal_same {w : World} {p q : Option Addr} {n m c d : Nat} {xs : List Int} (h1 : Has w p n xs) (h2 : Has w q m xs) :
    Calls Ybaf.prog 7 #[.slice p n c, .slice q m d] w fun e w' => e = .returned (.bool true) ∧ w' = w := by
  have e1 := convert_has (c := c) h1
  have e2 := convert_has (c := d) h2
  go_enter Ybaf.func7, Ybaf.ntmps7
  go_wp2
  go_ret
  exact ⟨by simp, rfl⟩

/-- What is owned reads so. -/
theorem own_has {w : World} {base n : Nat} {ao : Option Addr} {cap : Nat} {zs : List Int} (hn : zs.length = n) (h : w.ownsRow base 5 1 (.slice ao n cap) n (u8s zs)) : Has w ao n zs := by
  subst hn
  refine ⟨rfl, fun j hj => ?_⟩
  rcases h.2 with ⟨h0, hn⟩ | ⟨g, cap', cur, h0, _⟩
  · omega
  · simp only [Value.slice.injEq, true_and] at h0
    obtain ⟨rfl, rfl⟩ := h0
    exact ⟨_, rfl, by rw [Addr.add_lit, Nat.zero_add, h.cellAt j (by omega), u8s_get _ _ hj]⟩

theorem clone_nil (w : World) :
    Calls Ybaf.prog 5 #[.slice none 0 0] w fun e w' => e = .returned (.slice none 0 0) ∧ w' = w := by
  have hq := fun w => Lib.run_eql_slice_nil (P := Ybaf.prog) w 22 5 none 0 0 0 0 Ybaf.underlying22
  go_enter Ybaf.func5, Ybaf.ntmps5
  go_wp2
  go_ret
  exact ⟨rfl, rfl⟩

theorem clone_some (x : Addr) (n cap : Nat) (zs : List Int) (w : World) (hl : n ≤ 1048576) (hc : Has w (some x) n zs) :
    Calls Ybaf.prog 5 #[.slice (some x) n cap] w fun e w' => ∃ g cap', e = .returned (.slice (some ⟨g, 0, none⟩) n cap') ∧ w'.ownsRow w.heap.size 5 1 (.slice (some ⟨g, 0, none⟩) n cap') n (u8s zs) ∧ Below w.heap.size w w' := by
  obtain ⟨i0, hi, hz0, hz1, hz2⟩ := info_parts Ybaf.info5
  have hq := fun w => Lib.run_eql_slice_nil (P := Ybaf.prog) w 22 5 (some x) n cap 0 0 Ybaf.underlying22
  have hn := hc.1
  have hown : (w.alloc (.cells #[] 5)).ownsRow w.heap.size 5 1 (.slice (some ⟨w.heap.size, 0, none⟩) 0 0) 0 [] := World.ownsRow_lit w #[] 0 (Nat.le_refl _) (by unfold maxLen; omega) rfl
  have hcs := (hc.later (Nat.le_refl _) ((Below.refl _ w).alloc (Nat.le_refl _) (.cells #[] 5))).cells
  have hu : (u8s zs).length = n * 1 := by rw [u8s_length, hn]; omega
  clear hc hn
  go_enter Ybaf.func5, Ybaf.ntmps5
  go_wp2_with (at_builtin; refine wpList_append_own _ rfl (.tmp 5) (.tmp 6) 22 rfl w.heap.size 5 i0 (.int .u8 0) 1 1 Ybaf.underlying22 hi hz0 hz1 hz2 rfl (by decide) _ 0 [] rfl hown x n cap (u8s zs) rfl hu hcs (u8s_one _) (by unfold maxLen; omega) (by omega) (by simp) ?_; intro v1 w1 hown1 hgrow1 hnil1)
  obtain ⟨g, cap', rfl⟩ : ∃ g cap', v1 = .slice (some ⟨g, 0, none⟩) n cap' := by
    rcases hown1.2 with ⟨h, _⟩ | ⟨g, cap', _, h, _⟩
    · have h2 : Value.slice (some ⟨w.heap.size, 0, none⟩) 0 0 = .slice none 0 0 := (hnil1.1 h).1
      cases h2
    · exact ⟨g, cap', by rw [h, Nat.zero_add]⟩
  have hb : Below w.heap.size w w1 := ((Below.refl _ w).alloc (Nat.le_refl _) _).grown hgrow1 (by simp) (fun k h => by have h' : some w.heap.size = some k := h; injection h' with h'; omega)
  go_ret
  exact ⟨g, cap', rfl, by simpa using hown1, hb⟩

/-- slices.Grow where there is room. -/
theorem grow_room (base : Option Addr) (c n : Nat) (w : World) (hc63 : c ≤ 9223372036854775807) (hroom : n ≤ c) :
    Calls Ybaf.prog 11 #[.slice base 0 c, .int .i64 n] w fun e w' => e = .returned (.slice base 0 c) ∧ w' = w := by
  have h1 : ¬ ((n : Int) < 0) := by omega
  have h2 : (n : Int) ≤ (c : Int) := by omega
  have h3 : (c : Int) ≤ 9223372036854775807 := by omega
  go_enter Ybaf.func11, Ybaf.ntmps11
  go_wp2
  go_ret
  exact ⟨rfl, rfl⟩

set_option maxRecDepth 100000 in
set_option maxHeartbeats 1000000 in
/-- slices.Grow where there is none: a new row. -/
theorem grow_new (base : Option Addr) (c n : Nat) (cs : List Value) (w : World) (hroom : c < n) (hn : n ≤ 1048576) (hcl : cs.length = c) (hnil : base = none → c = 0) (hcs : ∀ a, base = some a → ∀ j v, cs[j]? = some v → w.cell? (a.add j) = some v) :
    Calls Ybaf.prog 11 #[.slice base 0 c, .int .i64 n] w fun e w' => ∃ G, n ≤ G ∧ G ≤ maxLen ∧ e = .returned (.slice (some ⟨w.heap.size, 0, none⟩) 0 G) ∧
      ∃ cur, cur.size = G ∧ w' = w.drew.alloc (.cells cur 5) := by
  obtain ⟨i0, hi, hz0, hz1, hz2⟩ := info_parts Ybaf.info5
  have hold : (Builtin.firstCells i0.size c (.slice base c c)).run Ybaf.prog w.drew = .ok cs.toArray w.drew := by
    rw [hz1]
    cases base with
    | none =>
      have h0 := hnil rfl
      subst h0
      have hc0 : cs = [] := List.length_eq_zero_iff.1 hcl
      rw [hc0]
      exact run_firstCells_none w.drew 1 0 0 0
    | some a => exact run_firstCells_some w.drew 1 c a c c cs (by omega) (fun j v hj => hcs a rfl j v hj)
  have hG := grownCap_ge w n c 5
  have hGm := grownCap_le_maxLen w n c 5 (by unfold maxLen; omega)
  have hrz : ∀ ty, (Builtin.append_ #[22, 3] ty #[.slice base c c, .int .i64 ((n : Int) - (c : Int))]).run Ybaf.prog w =
      .ok (.slice (some ⟨w.heap.size, 0, none⟩) n (grownCap w n c 5)) (w.drew.alloc (.cells (cs.toArray ++ Builtin.zeroCells (Value.int .u8 0).cells (n - c) ++ Builtin.zeroCells (Value.int .u8 0).cells (grownCap w n c 5 - n)) 5)) := fun ty => by
    have hck : c + (n - c) = n := by omega
    have h := Lib.run_append_grow_zeros w 22 3 ty 5 i0 (.int .u8 0) .i64 .i64 Ybaf.underlying22 Ybaf.underlying3 hi hz0 base c c cs hold (n - c) (by omega) (by rw [hz1]; omega) (by omega) (by omega) (by rw [hz2]; omega) (by rw [hck, hz2]; exact growslice_fits hroom (by omega))
    rw [hck] at h
    rw [show (n : Int) - (c : Int) = ((n - c : Nat) : Int) by omega]
    exact h
  obtain ⟨G, eG⟩ : ∃ G, Hid (G = grownCap w n c 5) := ⟨_, rfl⟩
  rw [← eG.out] at hG hGm hrz
  obtain ⟨cur, ecur⟩ : ∃ cur, Hid (cur = cs.toArray ++ Builtin.zeroCells (Value.int .u8 0).cells (n - c) ++ Builtin.zeroCells (Value.int .u8 0).cells (G - n)) := ⟨_, rfl⟩
  rw [← ecur.out] at hrz
  have hcur : Hid (cur.size = G) := by show _ = _; rw [ecur.out]; simp [Builtin.zeroCells, Value.cells, hcl]; omega
  have h1 : ¬ ((n : Int) < 0) := by omega
  have h2 : (c : Int) < (n : Int) := by omega
  have h3 : (n : Int) ≤ 1048576 := by omega
  clear hold hcs hcl ecur
  go_enter Ybaf.func11, Ybaf.ntmps11
  cases base with
  | none =>
    have h0 := hnil rfl
    subst h0
    go_wp2_with (at_builtin; refine Lib.wpList_append_run _ rfl _ _ _ _ rfl _ _ rfl rfl _ _ (hrz _) ?_)
    all_goals (go_ret; exact ⟨G, hG, hGm, rfl, cur, hcur.out, rfl⟩)
  | some a =>
    obtain ⟨ab, ao, asp⟩ := a
    go_wp2_with (at_builtin; refine Lib.wpList_append_run _ rfl _ _ _ _ rfl _ _ rfl rfl _ _ (hrz _) ?_)
    all_goals (go_ret; exact ⟨G, hG, hGm, rfl, cur, hcur.out, rfl⟩)

end Go.Proofs.YbulkdyqiFmt
