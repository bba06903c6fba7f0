/-
  STATEMENT LawS6266AWhole: the four struct arguments, read field by field.
-/
import Derived.Test.YbulkdytaA1
import Derived.ProofKit
import Derived.SizedLaws
import Derived.Lib.SmallJoins
namespace Go.Proofs.Ybulkdyta
open Go.ChangeShapes Go.WideShapes Go.ChangeAt Go.RowKit Go.Joins

section
variable {H : Type} {enc : TypeId × Value → H} {P : Program} {W : World}

/-- A reading as the row hands it over. -/
abbrev Reads (enc : TypeId × Value → H) (P : Program) (W : World) (n : Nat) (t : TypeId) (c : Value) (y : DataW H × List MemPlace) : Prop := DataW.trod enc P W 0 (fun _ => true) true n t [c] = some y

/-- A struct's fields, one cell each. -/
theorem fields_open {t : TypeId} {fs : Array Field} {cs : Array Value} {d : DataW H} {p : List MemPlace} (ht : P.underlying t = some (.struct fs)) (h : DataW.Trod enc P W 0 (fun _ => true) true t (.agg cs) d p) :
    ∃ (ds : List (DataW H)) (n : Nat), d = .agg ds ∧ ∀ (i : Nat) (f : Field) (c : Value), fs[i]? = some f → f.offset = i → P.cellsOf f.type = 1 → cs[i]? = some c → ∃ y, ds[i]? = some y.1 ∧ Reads enc P W n f.type c y := by
  obtain ⟨fuel, hf⟩ := h
  obtain ⟨xs, n, _, hx, _, hlen, hfs⟩ := DataW.trod_struct ht hf
  simp only [Prod.mk.injEq] at hx
  refine ⟨xs.map (·.1), n, hx.1, fun i f c hi ho hc hcs => ?_⟩
  have h1 := hfs i f hi
  have hlt : i < xs.length := by rw [hlen]; exact (Array.getElem?_eq_some_iff.1 hi).1
  refine ⟨xs[i], by simp [hlt], ?_⟩
  have h2 : ((Value.agg cs).cells.toList.drop f.offset).take (P.cellsOf f.type) = [c] := by
    obtain ⟨hc1, hc2⟩ := Array.getElem?_eq_some_iff.1 hcs
    rw [ho, hc]
    show (cs.toList.drop i).take 1 = [c]
    rw [List.drop_eq_getElem_cons (by simpa using hc1)]
    simp [hc2]
  rw [h2, List.getElem?_eq_getElem hlt] at h1
  exact h1

/-- A slice of one-cell elements. -/
theorem row_open {t e : TypeId} {n : Nat} {c : Value} {y : DataW H × List MemPlace} (ht : P.underlying t = some (.slice e)) (hc : P.cellsOf e = 1) (h : Reads enc P W n t c y) :
    ∃ p l cap, c = .slice p l cap ∧ (p = none → l = 0 ∧ cap = 0) ∧ (l = 0 ∨ ∃ el sp, y.1 = .slice el sp ∧ el.length = l) ∧
      ∀ j, j < l → ∃ a v m z, p = some a ∧ W.cell? (a.add j) = some v ∧ Reads enc P W m e v z := by
  rcases DataW.trod_slice ht h with ⟨h0, _⟩ | ⟨a, len, cap, elems, rest, m, _, hcs, hx, _, _, _, hlen, hel, _⟩
  · simp only [List.cons.injEq, and_true] at h0
    exact ⟨none, 0, 0, h0, fun _ => ⟨rfl, rfl⟩, .inl rfl, fun j hj => by omega⟩
  · simp only [List.cons.injEq, and_true] at hcs
    refine ⟨some a, len, cap, hcs, (fun h => by cases h), .inr ⟨elems.map (·.1), rest.map (·.1), by rw [hx], by simpa using hlen⟩, fun j hj => ?_⟩
    have h1 := hel j hj
    rw [hc, Nat.mul_one, List.getElem?_eq_getElem (by omega), Option.bind_eq_some_iff] at h1
    obtain ⟨c1, hc1, hy1⟩ := h1
    have h2 : ∃ v, c1 = [v] ∧ W.cell? (a.add j) = some v := by
      obtain ⟨_, hl1, hcell⟩ := World.cells?_some hc1
      match c1, hl1, hcell with
      | [v], _, hcell =>
        refine ⟨v, rfl, ?_⟩
        have := hcell 0 (by omega)
        simpa [Addr.add] using this
    obtain ⟨v, rfl, hv⟩ := h2
    exact ⟨a, v, m, _, rfl, hv, hy1⟩

/-- A value for each index. -/
theorem pick_each {α : Type} [Nonempty α] {l : Nat} {p : Nat → α → Prop} (h : ∀ j, j < l → ∃ z, p j z) : ∃ f : Nat → α, ∀ j, j < l → p j (f j) := by
  have : ∀ j, ∃ z, j < l → p j z := fun j => by
    by_cases hj : j < l
    · obtain ⟨z, hz⟩ := h j hj; exact ⟨z, fun _ => hz⟩
    · exact ⟨Classical.choice inferInstance, fun x => absurd x hj⟩
  exact Classical.axiomOfChoice this

theorem ints_open {t e : TypeId} {k : IntKind} {n : Nat} {c : Value} {y : DataW H × List MemPlace} (ht : P.underlying t = some (.slice e)) (he : P.underlying e = some (.int k)) (hc : P.cellsOf e = 1) (h : Reads enc P W n t c y) :
    ∃ p l cap, ∃ f : Nat → Int, c = .slice p l cap ∧ (p = none → l = 0 ∧ cap = 0) ∧ (l = 0 ∨ ∃ el sp, y.1 = .slice el sp ∧ el.length = l) ∧ Has W p l (fun j => .int k (f j)) ∧ ∀ j, j < l → (Lit.int k (f j)).wf = true := by
  obtain ⟨p, l, cap, hcs, hn, hs, hel⟩ := row_open ht hc h
  obtain ⟨f, hf⟩ := pick_each (l := l) (p := fun j (z : Int) => (∃ a, p = some a ∧ W.cell? (a.add j) = some (.int k z)) ∧ (Lit.int k z).wf = true) (fun j hj => by
    obtain ⟨a, v, m, z, h1, h2, h3⟩ := hel j hj
    obtain ⟨i, e1, _, e2⟩ := DataW.trod_int he h3
    simp only [List.cons.injEq, and_true] at e1
    exact ⟨i, ⟨a, h1, by rw [h2, e1]⟩, e2⟩)
  exact ⟨p, l, cap, f, hcs, hn, hs, fun j hj => (hf j hj).1, fun j hj => (hf j hj).2⟩

theorem strings_open {t e : TypeId} {n : Nat} {c : Value} {y : DataW H × List MemPlace} (ht : P.underlying t = some (.slice e)) (he : P.underlying e = some .string) (hc : P.cellsOf e = 1) (h : Reads enc P W n t c y) :
    ∃ p l cap, ∃ f : Nat → ByteArray, c = .slice p l cap ∧ Has W p l (fun j => .string (f j)) ∧ ∀ j, j < l → (f j).size ≤ maxLen := by
  obtain ⟨p, l, cap, hcs, _, _, hel⟩ := row_open ht hc h
  obtain ⟨f, hf⟩ := pick_each (l := l) (p := fun j (z : ByteArray) => (∃ a, p = some a ∧ W.cell? (a.add j) = some (.string z)) ∧ z.size ≤ maxLen) (fun j hj => by
    obtain ⟨a, v, m, z, h1, h2, h3⟩ := hel j hj
    obtain ⟨i, e1, _, e2⟩ := DataW.trod_string he h3
    simp only [List.cons.injEq, and_true] at e1
    exact ⟨i, ⟨a, h1, by rw [h2, e1]⟩, e2⟩)
  exact ⟨p, l, cap, f, hcs, fun j hj => (hf j hj).1, fun j hj => (hf j hj).2⟩

theorem bools_open {t e : TypeId} {n : Nat} {c : Value} {y : DataW H × List MemPlace} (ht : P.underlying t = some (.slice e)) (he : P.underlying e = some .bool) (hc : P.cellsOf e = 1) (h : Reads enc P W n t c y) :
    ∃ p l cap, ∃ f : Nat → Bool, c = .slice p l cap ∧ Has W p l (fun j => .bool (f j)) := by
  obtain ⟨p, l, cap, hcs, _, _, hel⟩ := row_open ht hc h
  obtain ⟨f, hf⟩ := pick_each (l := l) (p := fun j (z : Bool) => ∃ a, p = some a ∧ W.cell? (a.add j) = some (.bool z)) (fun j hj => by
    obtain ⟨a, v, m, z, h1, h2, h3⟩ := hel j hj
    obtain ⟨i, e1, _⟩ := DataW.trod_bool he h3
    simp only [List.cons.injEq, and_true] at e1
    exact ⟨i, a, h1, by rw [h2, e1]⟩)
  exact ⟨p, l, cap, f, hcs, fun j hj => hf j hj⟩

theorem one_int {t : TypeId} {k : IntKind} {n : Nat} {c : Value} {y : DataW H × List MemPlace} (ht : P.underlying t = some (.int k)) (h : Reads enc P W n t c y) : ∃ i, c = .int k i ∧ (Lit.int k i).wf = true := by
  obtain ⟨i, e1, _, e2⟩ := DataW.trod_int ht h
  simp only [List.cons.injEq, and_true] at e1
  exact ⟨i, e1, e2⟩

theorem one_bool {t : TypeId} {n : Nat} {c : Value} {y : DataW H × List MemPlace} (ht : P.underlying t = some .bool) (h : Reads enc P W n t c y) : ∃ b, c = .bool b := by
  obtain ⟨b, e1, _⟩ := DataW.trod_bool ht h
  simp only [List.cons.injEq, and_true] at e1
  exact ⟨b, e1⟩

/-- The reach of a slice that is a struct's field. -/
theorem field_sized {ts : List TypeId} {ds parts : List (DataW H)} {j i : Nat} {t e : TypeId} {fs : Array Field} {f : Field} {el sp : List (DataW H)} (h : (DataW.weightsEach P ts ds).all (· ≤ reachBytes) = true) (ht : ts[j]? = some t) (hd : ds[j]? = some (.agg parts))
    (hs : P.underlying t = some (.struct fs)) (hi : fs[i]? = some f) (hp : parts[i]? = some (.slice el sp)) (hu : P.underlying f.type = some (.slice e)) (hb : P.bytesOf e = 1) : el.length ≤ reachBytes := by
  have h1 : (el.length + sp.length) * P.bytesOf e ∈ DataW.weights P t (.agg parts) := by
    simp only [DataW.weights, hs]
    exact DataW.weights_mem_each (j := i) (t := f.type) (by simp [hi]) hp _ (by simp [DataW.weights, hu])
  have h2 := List.all_eq_true.1 h _ (DataW.weights_mem_each ht hd _ h1)
  rw [hb] at h2
  have h3 : (el.length + sp.length) * 1 ≤ reachBytes := by simpa using h2
  omega

end

theorem array13 {α : Type} {cs : Array α} (h : cs.size = 13) : ∃ c0 c1 c2 c3 c4 c5 c6 c7 c8 c9 c10 c11 c12, cs = #[c0, c1, c2, c3, c4, c5, c6, c7, c8, c9, c10, c11, c12] := by
  obtain ⟨l⟩ := cs
  match l, h with
  | [c0, c1, c2, c3, c4, c5, c6, c7, c8, c9, c10, c11, c12], _ => exact ⟨c0, c1, c2, c3, c4, c5, c6, c7, c8, c9, c10, c11, c12, rfl⟩
theorem array5 {α : Type} {cs : Array α} (h : cs.size = 5) : ∃ c0 c1 c2 c3 c4, cs = #[c0, c1, c2, c3, c4] := by
  obtain ⟨l⟩ := cs
  match l, h with
  | [c0, c1, c2, c3, c4], _ => exact ⟨c0, c1, c2, c3, c4, rfl⟩

end Go.Proofs.Ybulkdyta
