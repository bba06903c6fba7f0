/-
  STATEMENT LawS6266AWhole: maps of pointers; clear; appending to a full row of pointers.
-/
import Derived.Test.YbulkdytaA2
import Derived.Maps.RangeWalk
import Derived.Maps.OwnSet
import Derived.Maps.OwnOps
import Derived.Deep.AppendLies
import Derived.Deep.AppendSrc
import Derived.OwnWalk
import Derived.Lib.AppendZeros
namespace Go.Proofs.Ybulkdyta
open Go.RowKit Go.Maps Go.ChangeMaps Go.MapKept

/-- How a pointer among a map's elements reads: as itself. -/
def ptrR (v : Value) : Option (DataW (Option Addr) × List MemPlace) :=
  match v with
  | .pointer q => some (.held q, [])
  | _ => none
theorem ptrR_mk (q : Option Addr) : ptrR (.pointer q) = some (.held q, []) := rfl
theorem ptrR_inv {v : Value} {y : DataW (Option Addr) × List MemPlace} (h : ptrR v = some y) : ∃ q, v = .pointer q ∧ y = (.held q, []) := by
  cases v <;> simp [ptrR] at h
  exact ⟨_, rfl, h.symm⟩

theorem key9 : Keyed Yba.prog 9 := string_keyed Yba.underlying9
theorem key68 : Keyed Yba.prog 68 := int_keyed Yba.underlying68
theorem zero55 (w : World) : (zeroValue 55).run Yba.prog w = .ok (.pointer none) w := by kernel_rfl
theorem zero3 (w : World) : (zeroValue 3).run Yba.prog w = .ok (.int .i64 0) w := by kernel_rfl

theorem key9_inv {key : Value} {kl : Lit} (h : keyOf Yba.prog 9 key = some kl) : ∃ s, key = .string s := by
  cases key <;> simp [keyOf, Yba.underlying9, mapKey] at h
  exact ⟨_, rfl⟩

/-- 'clear(m)'. -/
theorem run_clear_own {H : Type} {P : Program} {k e t : TypeId} {R : Value → Option (DataW H × List MemPlace)} {w : World} {b n : Nat} {D : DataW H} (h : w.ownsMap P k R b n D) (ht : P.underlying t = some (.map k e)) :
    ∃ w', (∀ ty, (Builtin.clear_ #[t] ty #[.map (some b)]).run P w = .ok (.tuple #[]) w') ∧ w'.ownsMap P k R b n (.map []) ∧ w.grownBy w' (some b) := by
  obtain ⟨es, clock, hb, F, hs, rfl⟩ := h
  refine ⟨setBlock w b (.map #[] clock), ?_, ⟨#[], clock, heap_setBlock_same hb _, ⟨by simp, ?_, fun x hx => by simp at hx⟩, by simp, rfl⟩, ⟨rfl, rfl, rfl, by simp [setBlock], fun i _ hi => heap_setBlock_other hb _ (fun e => hi (by rw [e]))⟩⟩
  · intro ty
    simp [Builtin.clear_, run_underlying ht, MapKept.run_getObj_map hb, MapKept.run_setObj_map _ hb, Result.andThen, setBlock]

  · exact ⟨by simp, by simp⟩

/-- Pointers, as cells. -/
def ptrs (L : List Addr) : List Value := L.map fun p => .pointer (some p)
theorem ptrs_length (L : List Addr) : (ptrs L).length = L.length := by simp [ptrs]
theorem ptrs_append (L L' : List Addr) : ptrs (L ++ L') = ptrs L ++ ptrs L' := by simp [ptrs]
theorem ptrs_one (L : List Addr) : ∀ u ∈ ptrs L, u.oneCell' = true := by
  intro u hu
  obtain ⟨p, _, rfl⟩ := List.mem_map.1 hu
  rfl
theorem ptrs_get (L : List Addr) (j : Nat) : (ptrs L)[j]? = (L[j]?).map fun p => .pointer (some p) := by simp [ptrs]

theorem Yba.info55 : (Yba.prog.info? 55).map (fun i => (i.zero, i.size, i.bytes)) = some (some (.pointer none), 1, 8) := by kernel_rfl

/-- 'append(s, p)' where s is full: a new row. -/
theorem append_full (w : World) (ty : TypeId) (S n : Nat) (L0 : List Addr) (hn : L0.length = n) (h255 : n ≤ 2000) (hown : w.ownsRow S 55 1 (.slice (some ⟨S, 0, none⟩) n n) n (ptrs L0)) (hS : S ≤ w.heap.size)
    (ad : Addr) (x : Addr) (hx : w.cell? ad = some (.pointer (some x))) :
    ∃ cap w', (Builtin.append_ #[54, 54] ty #[.slice (some ⟨S, 0, none⟩) n n, .slice (some ad) 1 1]).run Yba.prog w = .ok (.slice (some ⟨w.heap.size, 0, none⟩) (n + 1) cap) w' ∧
      w'.ownsRow w.heap.size 55 1 (.slice (some ⟨w.heap.size, 0, none⟩) (n + 1) cap) (n + 1) (ptrs (L0 ++ [x])) ∧ w.grownBy w' none := by
  obtain ⟨i0, hi, hz0, hz1, hz2⟩ := info_parts Yba.info55
  have hnews : ∀ j u, ([.pointer (some x)] : List Value)[j]? = some u → w.cell? (ad.add j) = some u := by
    intro j u hj
    match j, hj with
    | 0, hj => simp at hj; subst hj; simpa [Addr.add] using hx
  obtain ⟨g, cap, w', hr, h2, h3, h4, h5⟩ := run_append_lies (P := Yba.prog) w 54 ty S 55 i0 (.pointer none) 1 8 Yba.underlying54 hi hz0 hz1 hz2 rfl (by decide) _ n (ptrs L0) hown ad 1 1 [.pointer (some x)] rfl hnews (by simp [Value.oneCell']) (by omega) (by unfold maxLen; omega) (by omega) hS _ rfl
  have hold : (Builtin.firstCells i0.size n (.slice (some ⟨S, 0, none⟩) n n)).run Yba.prog w.drew = .ok (ptrs L0).toArray w.drew :=
    run_firstCells_some w.drew i0.size n ⟨S, 0, none⟩ n n (ptrs L0) (by rw [hz1, ptrs_length]; omega) (fun j v hj => by
      have hlt : j < L0.length := by have := (List.getElem?_eq_some_iff.1 hj).1; rwa [ptrs_length] at this
      rw [Addr.add_lit, Nat.zero_add]
      have := hown.cellAt j (by omega)
      rw [hj] at this
      simpa using this)
  have hfit : Builtin.nextslicecap (n + 1) n * i0.bytes ≤ 281474976710656 := growslice_fits (by omega) (by rw [hz2]; omega)
  have hr2 := run_append_grow_src (P := Yba.prog) w 54 54 ty 55 i0 (.pointer none) Yba.underlying54 hi hz0 (some ⟨S, 0, none⟩) n n (ptrs L0) hold (.slice (some ad) 1 1) 1 [.pointer (some x)] (Src.ofSlice w Yba.underlying54 ad 1 1 _ (by rw [hz1]; rfl) hnews (by simp [Value.oneCell'])) (by omega) (by omega) hfit
  rw [hr2] at hr
  simp only [Result.ok.injEq, Value.slice.injEq, Option.some.injEq, Addr.mk.injEq, and_true, true_and] at hr
  obtain ⟨⟨rfl, rfl⟩, rfl⟩ := hr
  refine ⟨_, _, hr2, ?_, ⟨rfl, rfl, rfl, by simp, fun k hk _ => (World.grownBy_alloc w.drew _ none).block k hk (by simp)⟩⟩
  rw [ptrs_append]
  refine ⟨h2.1, .inr ?_⟩
  rcases h2.2 with ⟨h, _⟩ | ⟨g, c, cur, hv, hb, rest⟩
  · cases h
  · simp only [Value.slice.injEq, Option.some.injEq, Addr.mk.injEq, and_true, true_and] at hv
    obtain ⟨rfl, rfl⟩ := hv
    exact ⟨_, _, cur, rfl, Nat.le_refl _, rest⟩

end Go.Proofs.Ybulkdyta
