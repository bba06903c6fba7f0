/-
  '(*zzs6261crw).ReadAt', all its ways in one contract.
-/
import Derived.Test.YbulkdyqiFmtReadC
namespace Go.Proofs.YbulkdyqiFmt
open Go.RowKit

/-- A row of bytes and a block of another type are two blocks. -/
theorem Rw.apart {w : World} {rb base : Nat} {tv ov lv u : Value} {fail : Bool} {fe : Addr} {k : Nat} {xs : List Value} (h : Rw w rb tv fail fe ov lv) (ho : w.ownsRow base 5 1 u k xs) : u.ownBlock ≠ some rb := by
  intro hb
  rcases ho.2 with ⟨rfl, _⟩ | ⟨g, cap, cur, rfl, _, hg, _⟩
  · cases hb
  · obtain rfl : g = rb := by simpa [Value.ownBlock] using hb
    unfold Rw at h
    rw [h] at hg
    simp at hg

/-- What is owned hangs on its own block alone. -/
theorem ownsRow_keep {w w' : World} {base : Nat} {e : TypeId} {size : Nat} {v : Value} {n : Nat} {xs : List Value} (h : w.ownsRow base e size v n xs)
    (hh : ∀ g, v.ownBlock = some g → w'.heap[g]? = w.heap[g]?) : w'.ownsRow base e size v n xs := by
  obtain ⟨h1, h2⟩ := h
  refine ⟨h1, ?_⟩
  rcases h2 with h2 | ⟨g, cap, cur, rfl, hb, hg, hr⟩
  · exact .inl h2
  · exact .inr ⟨g, cap, cur, rfl, hb, by rw [hh g rfl]; exact hg, hr⟩

theorem read_any (rb base base' : Nat) (ta so : Option Addr) (tl tc n sc pos : Nat) (ts : List Int) (ys : List Value) (fail : Bool) (fe : Addr) (w : World) (hR : Rw w rb (.slice ta tl tc) fail fe (.slice none 0 0) (.slice none 0 0))
    (hp : (pos : Int) ≤ 9223372036854775807) (hl : ts.length = tl) (hT : w.ownsRow base' 5 1 (.slice ta tl tc) tl (u8s ts)) (hS : w.ownsRow base 5 1 (.slice so n sc) n ys) :
    Calls Ybaf.prog 31 #[.pointer (some ⟨rb, 0, none⟩), .slice so n sc, .int .i64 pos] w fun e w' =>
      ∃ sb, (sb = rb ∨ (Value.slice so n sc).ownBlock = some sb) ∧ Logged rb sb (.slice ta tl tc) fail fe pos n w w' ∧
      (((fail = true ∨ tl < pos + n) ∧ ∃ k, e = .returned (.tuple #[.int .i64 k, .iface 50 (.pointer (some fe))])) ∨
       (fail = false ∧ pos + n ≤ tl ∧ e = .returned (.tuple #[.int .i64 n, .nilIface]) ∧ w'.ownsRow base 5 1 (.slice so n sc) n (u8s ((ts.drop pos).take n)))) := by
  by_cases hf : fail = true ∨ tl < pos
  · refine (read_fail rb rb ta so tl tc n sc pos fail fe w hR hp hf).mono ?_
    rintro e w' ⟨k, rfl, hL⟩
    exact ⟨rb, .inl rfl, hL, .inl ⟨by rcases hf with h | h; exact .inl h; exact .inr (by omega), k, rfl⟩⟩
  · have hff : fail = false := by cases fail <;> simp_all
    have hpt : pos ≤ tl := by
      rcases Nat.lt_or_ge tl pos with h | h
      · exact absurd (.inr h) hf
      · exact h
    subst hff
    have hno := hR.apart hT
    have hno2 := hR.apart hS
    rcases hT.2 with ⟨h0, h1⟩ | ⟨tg, tcap, tcur, h0, _, htg, htc, _⟩
    · simp only [Value.slice.injEq] at h0
      obtain ⟨rfl, rfl, rfl⟩ := h0
      obtain rfl : pos = 0 := by omega
      refine (read_zero_nil rb rb so n sc fe w hR).mono ?_
      rintro e w' ⟨hL, h | ⟨rfl, rfl⟩⟩
      · exact ⟨rb, .inl rfl, hL, .inl ⟨.inr (by omega), h.2⟩⟩
      · refine ⟨rb, .inl rfl, hL, .inr ⟨rfl, by omega, rfl, ?_⟩⟩
        have hy : ys = [] := List.eq_nil_of_length_eq_zero (by simpa using hS.1)
        subst hy
        have e0 : u8s ((ts.drop 0).take 0) = [] := by simp [u8s]
        rw [e0]
        refine ownsRow_keep hS (fun g hg => ?_)
        have hlt := (hS.lt g hg).2
        exact hL.kept.block g hlt (by rintro (e | e) <;> exact hno2 (by rw [hg, e]))
    · simp only [Value.slice.injEq, true_and] at h0
      obtain ⟨rfl, rfl⟩ := h0
      have hT' := own_has hl hT
      have hne : tg ≠ rb := fun e => hno (by rw [← e]; rfl)
      by_cases hz : n = 0 ∨ tl = pos
      · refine (read_zero_some rb rb tg so tl tc n sc pos fe w hR hpt hz htc).mono ?_
        rintro e w' ⟨hL, h | ⟨h1, rfl⟩⟩
        · exact ⟨rb, .inl rfl, hL, .inl ⟨.inr h.1, h.2⟩⟩
        · have hn : n = 0 := by omega
          subst hn
          refine ⟨rb, .inl rfl, hL, .inr ⟨rfl, h1, rfl, ?_⟩⟩
          have hy : ys = [] := List.eq_nil_of_length_eq_zero (by simpa using hS.1)
          subst hy
          have e0 : u8s ((ts.drop pos).take 0) = [] := by simp [u8s]
          rw [e0]
          refine ownsRow_keep hS (fun g hg => ?_)
          have hlt := (hS.lt g hg).2
          exact hL.kept.block g hlt (by rintro (e | e) <;> exact hno2 (by rw [hg, e]))
      · rcases hS.2 with ⟨_, h1⟩ | ⟨sg, scap, scur, h0, _⟩
        · exact absurd (.inl h1) hz
        · simp only [Value.slice.injEq, true_and] at h0
          obtain ⟨rfl, rfl⟩ := h0
          have hne2 : sg ≠ rb := fun e => hno2 (by rw [← e]; rfl)
          refine (read_pos rb sg tg tl tc n sc pos base ts ys fe w hR (by omega) htc hT' hS hne hne2).mono ?_
          rintro e w' ⟨hL, ⟨h1, h2⟩ | ⟨h1, rfl, h2⟩⟩
          · exact ⟨sg, .inr rfl, hL, .inl ⟨.inr h1, h2⟩⟩
          · exact ⟨sg, .inr rfl, hL, .inr ⟨rfl, h1, rfl, h2⟩⟩

end Go.Proofs.YbulkdyqiFmt
