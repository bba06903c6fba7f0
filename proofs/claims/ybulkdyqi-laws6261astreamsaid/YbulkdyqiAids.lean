/-
  AIDS for the seat's walks: laws on rows that the call owns, one step of a drawing region (append on an own row), the table's rows.
-/
import Derived.Test.YbulkdyqiRows
import Derived.WalkKit
import Derived.ProofKit
import Derived.OpenShut
import Derived.ShutString
import Derived.ChangeOld
import Derived.Below
import Derived.WalkSpells
import Derived.WalkSmall
import Derived.Deep.RegionLaw
import Derived.Deep.QuietTactic
import Derived.BigQuiet
import Derived.Laws.CopyOwn
namespace Go.Proofs.Ybulkdyqi
open Go.RowKit

theorem Yba.info5 : (Yba.prog.info? 5).map (fun i => (i.zero, i.size, i.bytes)) = some (some (.int .u8 0), 1, 1) := by kernel_rfl
theorem Yba.size5 : (Yba.prog.info? 5).map (·.size) = some 1 := by kernel_rfl

/-- The cells of a list of bytes. -/
def u8s (zs : List Int) : List Value := zs.map (Value.int .u8)
theorem u8s_length (zs : List Int) : (u8s zs).length = zs.length := by simp [u8s]
theorem u8s_append (xs ys : List Int) : u8s (xs ++ ys) = u8s xs ++ u8s ys := by simp [u8s]
theorem u8s_get (zs : List Int) (j : Nat) (h : j < zs.length) : (u8s zs)[j]? = some (.int .u8 (zs.getD j 0)) := by
  simp [u8s, List.getD, h]
theorem u8s_one (zs : List Int) : ∀ u ∈ u8s zs, u.oneCell' = true := ints_oneCell _ _

/-- append on a row of the call's own, as one step of a region that draws. -/
theorem step_append_own {P : Program} {ops : Array Oper} {o : Oper} {a : Act} {w : World} {K : Act → World → Prop} {Q : Exit → Act → World → Prop} {E : Prop}
    (hgd : o.guard = none) (s x : Operand) (t : TypeId) (ho : o.op = .call { callee := .builtin .append, args := #[s, x], argTypes := #[t, t] })
    (base : Nat) (e : TypeId) (i : TypeInfo) (z : Value) (size bytes : Nat) (ht : P.underlying t = some (.slice e)) (hi : P.info? e = some i) (hz : i.zero = some z)
    (hsize : i.size = size) (hby : i.bytes = bytes) (hzs : z.cells.size = size) (hsz : 0 < size)
    (v : Value) (n : Nat) (xs : List Value) (hs : a.eval s = v) (hown : w.ownsRow base e size v n xs)
    (ad : Addr) (m c : Nat) (news : List Value) (hx : a.eval x = .slice (some ad) m c) (hl : news.length = m * size) (hnews : ∀ j u, news[j]? = some u → w.cell? (ad.add j) = some u) (h1 : ∀ u ∈ news, u.oneCell' = true)
    (h63 : n + m ≤ maxLen) (hbytes : (n + m) * bytes ≤ 140737488355328) (hbase : base ≤ w.heap.size)
    (h : ∀ v' w', w'.ownsRow base e size v' (n + m) (xs ++ news) → w.grownBy w' v.ownBlock → (v' = .slice none 0 0 ↔ v = .slice none 0 0 ∧ m = 0) → K (a.put o.dst v') w') :
    if Region.wanted o (yielded ops a.tmps) = true then Oper.wp P o a w K Q else E := by
  have hw : Region.wanted o (yielded ops a.tmps) = true := by simp [Region.wanted, hgd]
  rw [if_pos hw]
  exact wp_append_own w s x t ho base e i z size bytes ht hi hz hsize hby hzs hsz v n xs hs hown ad m c news hx hl hnews h1 h63 hbytes hbase h

/-- What is owned hangs on its own block alone. -/
theorem ownsRow_of_heap {w w' : World} {base : Nat} {e : TypeId} {size : Nat} {v : Value} {n : Nat} {xs : List Value} (h : w.ownsRow base e size v n xs)
    (hh : ∀ g, v.ownBlock = some g → w'.heap[g]? = w.heap[g]?) : w'.ownsRow base e size v n xs := by
  obtain ⟨h1, h2⟩ := h
  refine ⟨h1, ?_⟩
  rcases h2 with h2 | ⟨g, cap, cur, rfl, hb, hg, hr⟩
  · exact .inl h2
  · exact .inr ⟨g, cap, cur, rfl, hb, by rw [hh g rfl]; exact hg, hr⟩

/-- The shape of an owned slice of bytes. -/
theorem own_shape {w : World} {base : Nat} {v : Value} {zs : List Int} (h : w.ownsRow base 5 1 v zs.length (u8s zs)) :
    (v = .slice none 0 0 ∧ zs = []) ∨ ∃ g cap, v = .slice (some ⟨g, 0, none⟩) zs.length cap ∧ base ≤ g ∧ zs.length ≤ cap ∧ cap ≤ maxLen ∧ ∀ j, j < zs.length → w.cell? ⟨g, j, none⟩ = some (.int .u8 (zs.getD j 0)) := by
  rcases h.2 with ⟨h0, hn⟩ | ⟨g, cap, cur, h0, hb, hg, hnc, hcm, hcs, htake⟩
  · exact .inl ⟨h0, List.eq_nil_of_length_eq_zero hn⟩
  · subst h0
    refine .inr ⟨g, cap, rfl, hb, hnc, hcm, fun j hj => ?_⟩
    rw [h.cellAt j (by omega), u8s_get _ _ hj]

end Go.Proofs.Ybulkdyqi
