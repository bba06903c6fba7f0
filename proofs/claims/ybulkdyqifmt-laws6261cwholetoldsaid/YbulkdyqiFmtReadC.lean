/-
  THE WALK of '(*zzs6261crw).ReadAt', where bytes go over.
-/
import Derived.Test.YbulkdyqiFmtReadW
namespace Go.Proofs.YbulkdyqiFmt
open Go.RowKit

/-- copy into a row of the call's own, the world behind it a variable. -/
theorem wpList_copy_abs {w : World} {ops : Array Oper} {rest : List Oper} {o : Oper} {a : Act} {Q : Exit → Act → World → Prop} (hgd : o.guard = none) (d s : Operand)
    (ho : o.op = .call { callee := .builtin .copy, args := #[d, s], argTypes := #[22, 22] }) (g dLen dCap : Nat) (ad : Addr) (sLen sCap : Nat) (hd : a.eval d = .slice (some ⟨g, 0, none⟩) dLen dCap) (hs : a.eval s = .slice (some ad) sLen sCap)
    (cur : Array Value) (hg : w.heap[g]? = some (.cells cur 5 (0, 0))) (cs : List Value) (kk : Nat) (hk : cs.length = kk) (hn : kk = Nat.min sLen dLen)
    (hsrc : ∀ j v, cs[j]? = some v → w.cell? (ad.add j) = some v) (hfit : kk ≤ cur.size) (h1 : ∀ v ∈ cs, v.oneCell' = true)
    (h : ∀ w', Hid (w'.heap[g]? = some (.cells (cs ++ cur.toList.drop kk).toArray 5 (0, 0))) → Kept (fun k => k = g) w w' → wpList Ybaf.prog ops Q rest (a.put o.dst (.int .i64 (kk : Int))) w') : wpList Ybaf.prog ops Q (o :: rest) a w := by
  subst hk
  refine wpList_copy_own hgd d s 22 22 ho 5 Ybaf.underlying22 Ybaf.size5 g 0 dLen dCap ad sLen sCap hd hs cur 5 hg cs hn hsrc (by omega) h1 ?_
  refine h _ ?_ ⟨rfl, rfl, rfl, by simp [World.setRow], fun k _ hk => setRow_other w g k _ hk⟩
  have := setRow_heap w g cur (cur.toList.take 0 ++ (cs ++ cur.toList.drop (0 + cs.length))).toArray 5 (0, 0) hg
  show (World.setRow _ _ _).heap[g]? = _
  simpa using this

theorem Logged.row {rb : Nat} {tv : Value} {fail : Bool} {fe : Addr} {pos n : Int} {w w' : World} {sg : Nat} {o : Obj} (h : Logged rb rb tv fail fe pos n w w') (hg : w.heap[sg]? = some o) (hne : sg ≠ rb) : w'.heap[sg]? = some o := by
  rw [h.kept.block sg (Array.getElem?_eq_some_iff.1 hg).1 (by rintro (e | e) <;> exact hne e)]; exact hg

theorem Logged.src {rb : Nat} {tv : Value} {fail : Bool} {fe : Addr} {pos n : Int} {w w' : World} {tg tl p m : Nat} {ts : List Int} (h : Logged rb rb tv fail fe pos n w w') (hT : Has w (some ⟨tg, 0, none⟩) tl ts) (hne : tg ≠ rb) :
    ∀ j v, (u8s ((ts.drop p).take m))[j]? = some v → w'.cell? ((⟨tg, p, none⟩ : Addr).add j) = some v := by
  intro j v hj
  have hl : j < ((ts.drop p).take m).length := by
    have := (List.getElem?_eq_some_iff.1 hj).1
    rwa [u8s_length] at this
  rw [u8s_get _ _ hl] at hj
  have hl2 : p + j < tl := by rw [List.length_take, List.length_drop, hT.1] at hl; omega
  obtain ⟨x, hx, hc⟩ := hT.2 (p + j) hl2
  obtain rfl : (⟨tg, 0, none⟩ : Addr) = x := by simpa using hx
  have hk := h.kept.cell hc (by rw [Addr.add_lit]; rintro (e | e) <;> exact hne e)
  rw [Addr.add_lit, Nat.zero_add] at hk
  rw [Addr.add_lit, hk]
  have hjm : j < m := by rw [List.length_take] at hl; omega
  have e : ((ts.drop p).take m).getD j 0 = ts.getD (p + j) 0 := by
    simp [List.getD, hjm, List.getElem?_drop]
  rw [← e]; exact hj

theorem Logged.copied {rb sg : Nat} {tv : Value} {fail : Bool} {fe : Addr} {pos n : Int} {w w' w3 : World} (h : Logged rb sg tv fail fe pos n w w') (hk : Kept (fun k => k = sg) w' w3) (hsg : sg < w.heap.size) (hne : sg ≠ rb) : Logged rb sg tv fail fe pos n w w3 := by
  obtain ⟨⟨g1, c1, g2, c2, r, e1, e2, l1, l2⟩, k⟩ := h
  refine ⟨⟨g1, c1, g2, c2, r.kept hk (fun e => hne e.symm), hk.cell e1 (by show ¬ g1 = sg; omega), hk.cell e2 (by show ¬ g2 = sg; omega), l1, l2⟩, k.trans (hk.mono fun _ e => .inr e)⟩

theorem Logged.drew {rb sg : Nat} {tv : Value} {fail : Bool} {fe : Addr} {pos n : Int} {w w' : World} (h : Logged rb sg tv fail fe pos n w w') : Logged rb sg tv fail fe pos n w w'.drew := ⟨h.rw, h.kept.trans (Kept.drew _ _)⟩

theorem Logged.errCell {rb sg : Nat} {tv : Value} {fail : Bool} {fe : Addr} {pos n : Int} {w w' : World} (h : Logged rb sg tv fail fe pos n w w') : w'.cell? ⟨rb, 2, none⟩ = some (.iface 50 (.pointer (some fe))) := by
  obtain ⟨⟨g1, c1, g2, c2, r, _⟩, _⟩ := h
  exact r.cell.2.2.1

theorem own_after {w3 : World} {base sg n sc : Nat} {cs : List Value} {cur : Array Value} (hb : base ≤ sg) (hn : n ≤ sc) (hsc : sc ≤ maxLen) (hcs : cur.size = sc) (hl : cs.length = n) (h : w3.heap[sg]? = some (.cells (cs ++ cur.toList.drop n).toArray 5 (0, 0))) :
    w3.ownsRow base 5 1 (.slice (some ⟨sg, 0, none⟩) n sc) n cs :=
  ⟨by omega, .inr ⟨sg, sc, _, rfl, hb, h, hn, hsc, by simp [hl, hcs]; omega, by simp [← hl]⟩⟩

set_option maxRecDepth 100000 in
set_option maxHeartbeats 1000000 in
theorem read_pos (rb sg tg : Nat) (tl tc n sc pos base : Nat) (ts : List Int) (ys : List Value) (fe : Addr) (w : World) (hR : Rw w rb (.slice (some ⟨tg, 0, none⟩) tl tc) false fe (.slice none 0 0) (.slice none 0 0))
    (hp : pos < tl) (htc : tl ≤ tc) (hT : Has w (some ⟨tg, 0, none⟩) tl ts) (hS : w.ownsRow base 5 1 (.slice (some ⟨sg, 0, none⟩) n sc) n ys) (hne : tg ≠ rb) (hne2 : sg ≠ rb) :
    Calls Ybaf.prog 31 #[.pointer (some ⟨rb, 0, none⟩), .slice (some ⟨sg, 0, none⟩) n sc, .int .i64 pos] w fun e w' =>
      Logged rb sg (.slice (some ⟨tg, 0, none⟩) tl tc) false fe pos n w w' ∧
      ((tl < pos + n ∧ ∃ k, e = .returned (.tuple #[.int .i64 k, .iface 50 (.pointer (some fe))])) ∨
       (pos + n ≤ tl ∧ e = .returned (.tuple #[.int .i64 n, .nilIface]) ∧ w'.ownsRow base 5 1 (.slice (some ⟨sg, 0, none⟩) n sc) n (u8s ((ts.drop pos).take n)))) := by
  obtain ⟨c0, c1, c2, c3, c4, f3, f4⟩ := hR.cell
  have hrb := hR.lt
  have ca : ∀ o, (w.alloc o).cell? ⟨rb, 3, none⟩ = some (.slice none 0 0) := fun o => by rw [World.cell?_alloc_past _ _ _ hrb]; exact c3
  have hpos : 0 ≤ (pos : Int) := by omega
  have hp' : ¬ (tl : Int) < (pos : Int) := by omega
  have hp2 : (pos : Int) ≤ (tl : Int) := by omega
  have hp3 : ¬ tc = pos := by omega
  have hsg := (hS.lt sg rfl).2
  have hbase := (hS.lt sg rfl).1
  obtain ⟨cur, hcur, hcs, hsc, hnc⟩ : ∃ cur, w.heap[sg]? = some (.cells cur 5 (0, 0)) ∧ cur.size = sc ∧ sc ≤ maxLen ∧ n ≤ sc := by
    rcases hS.2 with ⟨h, _⟩ | ⟨g, cap, cur, h, _, hg, h1, h2, h3, _⟩
    · cases h
    · cases h; exact ⟨cur, hg, by omega, h2, h1⟩
  obtain ⟨kk, ekk⟩ : ∃ kk, Hid (kk = Nat.min (tl - pos) n) := ⟨_, rfl⟩
  have hkl : Hid ((u8s ((ts.drop pos).take n)).length = kk) := by
    show _ = _
    rw [u8s_length, List.length_take, List.length_drop, hT.1, ekk.out, Nat.min_comm]
  have hkn : kk ≤ n := by rw [ekk.out]; exact Nat.min_le_right _ _
  have hkk : Hid ((tl < pos + n ∧ kk < n) ∨ (pos + n ≤ tl ∧ kk = n)) := by
    have e : kk = min (tl - pos) n := ekk.out
    show _ ∨ _
    omega
  have hfit : kk ≤ cur.size := by omega
  have HC : Hid (w.heap[sg]? = some (.cells cur 5 (0, 0))) := hcur
  clear hcur
  go_enter Ybaf.func31, Ybaf.ntmps31
  go_wp2_with (first
    | (at_builtin; refine wpList_append_nil1 _ rfl (.tmp 13) (.tmp 15) 28 2 Ybaf.info2 Ybaf.underlying28 rfl rfl pos w.heap.size rfl (by simp) ?_; intro g1 cap1 w1 hg1 hc1 hgr1; have k1 := hR.kept ((Kept.alloc (fun _ => False) w _).trans (.of_grown hgr1 (fun k h => by cases h))) (fun h => h); obtain ⟨d0, d1, d2, d3, d4, e3, e4⟩ := k1.cell)
    | (at_builtin; refine wpList_append_nil1 _ rfl (.tmp 23) (.tmp 26) 29 3 Ybaf.info3 Ybaf.underlying29 rfl rfl n w1.heap.size rfl (cell_at_new _ _ _ _ (by simp)) ?_; intro g2 cap2 w2 hg2 hc2 hgr2; obtain ⟨_, r2, hL⟩ := logged_of (c2 := cap2) hR hg1 hc1 hgr1 hg2 hc2 hgr2; obtain ⟨x0, x1, x2, x3, x4, y3, y4⟩ := r2.cell)
    | (refine wpList_copy_abs rfl (.tmp 51) (.tmp 57) rfl sg n sc ⟨tg, pos, none⟩ (tl - pos) (tc - pos) rfl rfl cur ((hL rb).row HC.out hne2) (u8s ((ts.drop pos).take n)) kk hkl.out ekk.out ((hL rb).src hT hne) hfit (u8s_one _) ?_; intro w3 hw3 hk3; have hL3 := (hL sg).copied hk3 hsg hne2; have hc32 := hL3.errCell))
  · go_region
    all_goals
      go_wp2
      go_ret2
      refine ⟨hL3.drew, .inl ⟨?_, _, rfl⟩⟩
      rcases hkk.out with h | h <;> omega
  · have hkn : kk = n := by omega
    go_ret2
    refine ⟨hL3, .inr ⟨?_, by rw [hkn]; rfl, ?_⟩⟩
    · rcases hkk.out with h | h <;> omega
    · have h := hw3.out
      rw [hkn] at h
      exact own_after hbase hnc hsc hcs (by rw [hkl.out, hkn]) h

set_option maxRecDepth 100000 in
set_option maxHeartbeats 1000000 in
theorem read_zero_some (rb sb : Nat) (tg : Nat) (so : Option Addr) (tl tc n sc pos : Nat) (fe : Addr) (w : World) (hR : Rw w rb (.slice (some ⟨tg, 0, none⟩) tl tc) false fe (.slice none 0 0) (.slice none 0 0))
    (hp : pos ≤ tl) (hz : n = 0 ∨ tl = pos) (htc : tl ≤ tc) :
    Calls Ybaf.prog 31 #[.pointer (some ⟨rb, 0, none⟩), .slice so n sc, .int .i64 pos] w fun e w' =>
      Logged rb sb (.slice (some ⟨tg, 0, none⟩) tl tc) false fe pos n w w' ∧
      ((tl < pos + n ∧ ∃ k, e = .returned (.tuple #[.int .i64 k, .iface 50 (.pointer (some fe))])) ∨
       (pos + n ≤ tl ∧ e = .returned (.tuple #[.int .i64 n, .nilIface]))) := by
  obtain ⟨c0, c1, c2, c3, c4, f3, f4⟩ := hR.cell
  have hrb := hR.lt
  have ca : ∀ o, (w.alloc o).cell? ⟨rb, 3, none⟩ = some (.slice none 0 0) := fun o => by rw [World.cell?_alloc_past _ _ _ hrb]; exact c3
  have hpos : 0 ≤ (pos : Int) := by omega
  have hp' : ¬ (tl : Int) < (pos : Int) := by omega
  have hp2 : (pos : Int) ≤ (tl : Int) := by omega
  have hmin : Hid (Nat.min (tl - pos) n = 0) := by
    show min (tl - pos) n = 0
    omega
  have hz' : Hid (n = 0 ∨ tl = pos) := hz
  have hmin0 : Hid (Nat.min 0 n = 0) := by
    show min 0 n = 0
    omega
  clear hz
  by_cases htp : pos = tc
  · subst htp
    go_enter Ybaf.func31, Ybaf.ntmps31
    go_wp2_with (first
      | (at_builtin; refine wpList_append_nil1 _ rfl (.tmp 13) (.tmp 15) 28 2 Ybaf.info2 Ybaf.underlying28 rfl rfl pos w.heap.size rfl (by simp) ?_; intro g1 cap1 w1 hg1 hc1 hgr1; have k1 := hR.kept ((Kept.alloc (fun _ => False) w _).trans (.of_grown hgr1 (fun k h => by cases h))) (fun h => h); obtain ⟨d0, d1, d2, d3, d4, e3, e4⟩ := k1.cell)
      | (at_builtin; refine wpList_append_nil1 _ rfl (.tmp 23) (.tmp 26) 29 3 Ybaf.info3 Ybaf.underlying29 rfl rfl n w1.heap.size rfl (cell_at_new _ _ _ _ (by simp)) ?_; intro g2 cap2 w2 hg2 hc2 hgr2; obtain ⟨_, r2, hL⟩ := logged_of (c2 := cap2) hR hg1 hc1 hgr1 hg2 hc2 hgr2; obtain ⟨x0, x1, x2, x3, x4, y3, y4⟩ := r2.cell)
      | (refine wpList_copy_nothing rfl (.tmp 51) (.tmp 57) 22 22 rfl 5 Ybaf.underlying22 Ybaf.size5 _ _ _ _ _ _ rfl rfl hmin.out ?_; have hL3 := hL sb; have hc32 := hL3.errCell)
      | (refine wpList_copy_nothing rfl (.tmp 51) (.tmp 57) 22 22 rfl 5 Ybaf.underlying22 Ybaf.size5 _ _ _ _ _ _ rfl rfl hmin0.out ?_; have hL3 := hL sb; have hc32 := hL3.errCell))
    all_goals first
      | (go_region; all_goals (go_wp2; go_ret2; refine ⟨hL3.drew, .inl ⟨?_, _, rfl⟩⟩; rcases hz'.out with h | h <;> omega))
      | (obtain rfl : n = 0 := by omega
         go_ret2
         exact ⟨hL3, .inr ⟨by omega, rfl⟩⟩)
  · have htp' : ¬ tc = pos := fun h => htp h.symm
    clear htp
    go_enter Ybaf.func31, Ybaf.ntmps31
    go_wp2_with (first
      | (at_builtin; refine wpList_append_nil1 _ rfl (.tmp 13) (.tmp 15) 28 2 Ybaf.info2 Ybaf.underlying28 rfl rfl pos w.heap.size rfl (by simp) ?_; intro g1 cap1 w1 hg1 hc1 hgr1; have k1 := hR.kept ((Kept.alloc (fun _ => False) w _).trans (.of_grown hgr1 (fun k h => by cases h))) (fun h => h); obtain ⟨d0, d1, d2, d3, d4, e3, e4⟩ := k1.cell)
      | (at_builtin; refine wpList_append_nil1 _ rfl (.tmp 23) (.tmp 26) 29 3 Ybaf.info3 Ybaf.underlying29 rfl rfl n w1.heap.size rfl (cell_at_new _ _ _ _ (by simp)) ?_; intro g2 cap2 w2 hg2 hc2 hgr2; obtain ⟨_, r2, hL⟩ := logged_of (c2 := cap2) hR hg1 hc1 hgr1 hg2 hc2 hgr2; obtain ⟨x0, x1, x2, x3, x4, y3, y4⟩ := r2.cell)
      | (refine wpList_copy_nothing rfl (.tmp 51) (.tmp 57) 22 22 rfl 5 Ybaf.underlying22 Ybaf.size5 _ _ _ _ _ _ rfl rfl hmin.out ?_; have hL3 := hL sb; have hc32 := hL3.errCell))
    all_goals first
      | (go_region; all_goals (go_wp2; go_ret2; refine ⟨hL3.drew, .inl ⟨?_, _, rfl⟩⟩; rcases hz'.out with h | h <;> omega))
      | (obtain rfl : n = 0 := by omega
         go_ret2
         exact ⟨hL3, .inr ⟨by omega, rfl⟩⟩)

set_option maxRecDepth 100000 in
set_option maxHeartbeats 1000000 in
theorem read_zero_nil (rb sb : Nat) (so : Option Addr) (n sc : Nat) (fe : Addr) (w : World) (hR : Rw w rb (.slice none 0 0) false fe (.slice none 0 0) (.slice none 0 0)) :
    Calls Ybaf.prog 31 #[.pointer (some ⟨rb, 0, none⟩), .slice so n sc, .int .i64 0] w fun e w' =>
      Logged rb sb (.slice none 0 0) false fe 0 n w w' ∧
      ((0 < n ∧ ∃ k, e = .returned (.tuple #[.int .i64 k, .iface 50 (.pointer (some fe))])) ∨
       (n = 0 ∧ e = .returned (.tuple #[.int .i64 n, .nilIface]))) := by
  obtain ⟨c0, c1, c2, c3, c4, f3, f4⟩ := hR.cell
  have hrb := hR.lt
  have ca : ∀ o, (w.alloc o).cell? ⟨rb, 3, none⟩ = some (.slice none 0 0) := fun o => by rw [World.cell?_alloc_past _ _ _ hrb]; exact c3
  have hmin : Hid (Nat.min 0 n = 0) := by
    show min 0 n = 0
    omega
  go_enter Ybaf.func31, Ybaf.ntmps31
  go_wp2_with (first
    | (at_builtin; refine wpList_append_nil1 _ rfl (.tmp 13) (.tmp 15) 28 2 Ybaf.info2 Ybaf.underlying28 rfl rfl 0 w.heap.size rfl (by simp) ?_; intro g1 cap1 w1 hg1 hc1 hgr1; have k1 := hR.kept ((Kept.alloc (fun _ => False) w _).trans (.of_grown hgr1 (fun k h => by cases h))) (fun h => h); obtain ⟨d0, d1, d2, d3, d4, e3, e4⟩ := k1.cell)
    | (at_builtin; refine wpList_append_nil1 _ rfl (.tmp 23) (.tmp 26) 29 3 Ybaf.info3 Ybaf.underlying29 rfl rfl n w1.heap.size rfl (cell_at_new _ _ _ _ (by simp)) ?_; intro g2 cap2 w2 hg2 hc2 hgr2; obtain ⟨_, r2, hL⟩ := logged_of (c2 := cap2) hR hg1 hc1 hgr1 hg2 hc2 hgr2; obtain ⟨x0, x1, x2, x3, x4, y3, y4⟩ := r2.cell)
    | (refine wpList_copy_nothing rfl (.tmp 51) (.tmp 57) 22 22 rfl 5 Ybaf.underlying22 Ybaf.size5 _ _ _ _ _ _ rfl rfl hmin.out ?_; have hL3 := hL sb; have hc32 := hL3.errCell))
  all_goals first
    | (go_region; all_goals (go_wp2; go_ret2; refine ⟨hL3.drew, .inl ⟨?_, _, rfl⟩⟩; omega))
    | (obtain rfl : n = 0 := by omega
       go_ret2
       exact ⟨hL3, .inr ⟨by first | rfl | trivial, rfl⟩⟩)

end Go.Proofs.YbulkdyqiFmt
