/-
  STATEMENT LawS6266AWhole: the four struct arguments, written out.
-/
import Derived.Test.YbulkdytaRead
import Derived.OpenShut
namespace Go.Proofs.Ybulkdyta
open Go.ChangeShapes Go.WideShapes Go.ChangeAt Go.RowKit Go.Joins

theorem Yba.cells3 : Yba.prog.cellsOf 3 = 1 := by kernel_rfl
theorem Yba.cells4 : Yba.prog.cellsOf 4 = 1 := by kernel_rfl
theorem Yba.cells5 : Yba.prog.cellsOf 5 = 1 := by kernel_rfl
theorem Yba.cells9 : Yba.prog.cellsOf 9 = 1 := by kernel_rfl
theorem Yba.cells21 : Yba.prog.cellsOf 21 = 1 := by kernel_rfl
theorem Yba.cells67 : Yba.prog.cellsOf 67 = 1 := by kernel_rfl
theorem Yba.cells22 : Yba.prog.cellsOf 22 = 1 := by kernel_rfl
theorem Yba.cells23 : Yba.prog.cellsOf 23 = 1 := by kernel_rfl
theorem Yba.cells26 : Yba.prog.cellsOf 26 = 1 := by kernel_rfl
theorem Yba.cells27 : Yba.prog.cellsOf 27 = 1 := by kernel_rfl
theorem Yba.cells30 : Yba.prog.cellsOf 30 = 1 := by kernel_rfl
theorem Yba.cells31 : Yba.prog.cellsOf 31 = 1 := by kernel_rfl
theorem Yba.cells25 : Yba.prog.cellsOf 25 = 13 := by kernel_rfl
theorem Yba.cells29 : Yba.prog.cellsOf 29 = 4 := by kernel_rfl
theorem Yba.cells33 : Yba.prog.cellsOf 33 = 4 := by kernel_rfl
theorem Yba.cells35 : Yba.prog.cellsOf 35 = 5 := by kernel_rfl
theorem Yba.bytes5 : Yba.prog.bytesOf 5 = 1 := by kernel_rfl

theorem u8_nat {i : Int} (h : (Lit.int .u8 i).wf = true) : ∃ n : Nat, i = (n : Int) ∧ n ≤ 255 := by
  have := bounds_u8 h
  exact ⟨i.toNat, by omega, by omega⟩

section
variable {H : Type} {enc : TypeId × Value → H} {W : World} {b : Nat} {v : Value} {d : DataW H} {p : List MemPlace}

set_option maxRecDepth 100000 in
theorem st_open (hv : Value.okWide Yba.prog W .any b 25 v) (h : DataW.Trod enc Yba.prog W 0 (fun _ => true) true 25 v d p) :
    ∃ (a0 a1 a2 a3 a4 a5 : Int) (b0 b1 b2 : Bool) (n0 n1 : Nat) (pa : Option Addr) (la ca : Nat) (fa : Nat → Int) (pc : Option Addr) (lc cc : Nat) (fc : Nat → Int),
      v = .agg #[.int .i64 a0, .int .i64 a1, .int .i64 a2, .int .i64 a3, .int .i64 a4, .int .i64 a5, .bool b0, .bool b1, .bool b2, .int .u8 n0, .int .u8 n1, .slice pa la ca, .slice pc lc cc] ∧ n0 ≤ 255 ∧ n1 ≤ 255 ∧
      Has W pa la (fun j => .int .i64 (fa j)) ∧ (∀ j, j < la → (Lit.int .i64 (fa j)).wf = true) ∧ Has W pc lc (fun j => .int .u8 (fc j)) := by
  obtain ⟨cs, rfl, hsz⟩ := okWide_struct Yba.underlying25 hv
  obtain ⟨c0, c1, c2, c3, c4, c5, c6, c7, c8, c9, c10, c11, c12, rfl⟩ := array13 (hsz.trans Yba.cells25)
  obtain ⟨ds, n, _, hf⟩ := fields_open Yba.underlying25 h
  obtain ⟨_, _, r0⟩ := hf 0 _ c0 rfl rfl Yba.cells3 rfl
  obtain ⟨_, _, r1⟩ := hf 1 _ c1 rfl rfl Yba.cells3 rfl
  obtain ⟨_, _, r2⟩ := hf 2 _ c2 rfl rfl Yba.cells3 rfl
  obtain ⟨_, _, r3⟩ := hf 3 _ c3 rfl rfl Yba.cells3 rfl
  obtain ⟨_, _, r4⟩ := hf 4 _ c4 rfl rfl Yba.cells3 rfl
  obtain ⟨_, _, r5⟩ := hf 5 _ c5 rfl rfl Yba.cells3 rfl
  obtain ⟨_, _, r6⟩ := hf 6 _ c6 rfl rfl Yba.cells4 rfl
  obtain ⟨_, _, r7⟩ := hf 7 _ c7 rfl rfl Yba.cells4 rfl
  obtain ⟨_, _, r8⟩ := hf 8 _ c8 rfl rfl Yba.cells4 rfl
  obtain ⟨_, _, r9⟩ := hf 9 _ c9 rfl rfl Yba.cells5 rfl
  obtain ⟨_, _, r10⟩ := hf 10 _ c10 rfl rfl Yba.cells5 rfl
  obtain ⟨_, _, r11⟩ := hf 11 _ c11 rfl rfl Yba.cells22 rfl
  obtain ⟨_, _, r12⟩ := hf 12 _ c12 rfl rfl Yba.cells23 rfl
  obtain ⟨a0, rfl, _⟩ := one_int Yba.underlying3 r0
  obtain ⟨a1, rfl, _⟩ := one_int Yba.underlying3 r1
  obtain ⟨a2, rfl, _⟩ := one_int Yba.underlying3 r2
  obtain ⟨a3, rfl, _⟩ := one_int Yba.underlying3 r3
  obtain ⟨a4, rfl, _⟩ := one_int Yba.underlying3 r4
  obtain ⟨a5, rfl, _⟩ := one_int Yba.underlying3 r5
  obtain ⟨b0, rfl⟩ := one_bool Yba.underlying4 r6
  obtain ⟨b1, rfl⟩ := one_bool Yba.underlying4 r7
  obtain ⟨b2, rfl⟩ := one_bool Yba.underlying4 r8
  obtain ⟨i0, rfl, w0⟩ := one_int Yba.underlying5 r9
  obtain ⟨i1, rfl, w1⟩ := one_int Yba.underlying5 r10
  obtain ⟨n0, rfl, m0⟩ := u8_nat w0
  obtain ⟨n1, rfl, m1⟩ := u8_nat w1
  obtain ⟨pa, la, ca, fa, rfl, _, _, ha, wa⟩ := ints_open Yba.underlying22 Yba.underlying3 Yba.cells3 r11
  obtain ⟨pc, lc, cc, fc, rfl, _, _, hc, _⟩ := ints_open Yba.underlying23 Yba.underlying5 Yba.cells5 r12
  exact ⟨a0, a1, a2, a3, a4, a5, b0, b1, b2, n0, n1, pa, la, ca, fa, pc, lc, cc, fc, rfl, m0, m1, ha, wa, hc⟩

set_option maxRecDepth 100000 in
theorem ix_open (hv : Value.okWide Yba.prog W .any b 29 v) (h : DataW.Trod enc Yba.prog W 0 (fun _ => true) true 29 v d p) :
    ∃ (b0 : Bool) (pn : Option Addr) (ln cn : Nat) (fn : Nat → ByteArray) (pl : Option Addr) (ll cl : Nat) (fl : Nat → Bool) (n0 : Nat),
      v = .agg #[.bool b0, .slice pn ln cn, .slice pl ll cl, .int .u8 n0] ∧ n0 ≤ 255 ∧ Has W pn ln (fun j => .string (fn j)) ∧ (∀ j, j < ln → (fn j).size ≤ maxLen) ∧ Has W pl ll (fun j => .bool (fl j)) := by
  obtain ⟨cs, rfl, hsz⟩ := okWide_struct Yba.underlying29 hv
  obtain ⟨c0, c1, c2, c3, rfl⟩ := array4 (hsz.trans Yba.cells29)
  obtain ⟨ds, n, _, hf⟩ := fields_open Yba.underlying29 h
  obtain ⟨_, _, r0⟩ := hf 0 _ c0 rfl rfl Yba.cells4 rfl
  obtain ⟨_, _, r1⟩ := hf 1 _ c1 rfl rfl Yba.cells26 rfl
  obtain ⟨_, _, r2⟩ := hf 2 _ c2 rfl rfl Yba.cells27 rfl
  obtain ⟨_, _, r3⟩ := hf 3 _ c3 rfl rfl Yba.cells5 rfl
  obtain ⟨b0, rfl⟩ := one_bool Yba.underlying4 r0
  obtain ⟨pn, ln, cn, fn, rfl, hn, wn⟩ := strings_open Yba.underlying26 Yba.underlying9 Yba.cells9 r1
  obtain ⟨pl, ll, cl, fl, rfl, hl⟩ := bools_open Yba.underlying27 Yba.underlying4 Yba.cells4 r2
  obtain ⟨i0, rfl, w0⟩ := one_int Yba.underlying5 r3
  obtain ⟨n0, rfl, m0⟩ := u8_nat w0
  exact ⟨b0, pn, ln, cn, fn, pl, ll, cl, fl, n0, rfl, m0, hn, wn, hl⟩

set_option maxRecDepth 100000 in
theorem pd_open (hv : Value.okWide Yba.prog W .any b 33 v) (h : DataW.Trod enc Yba.prog W 0 (fun _ => true) true 33 v d p) :
    ∃ (pr : Option Addr) (lr cr : Nat) (fr : Nat → Int) (pt : Option Addr) (lt ct : Nat) (ft : Nat → Int) (b0 : Bool) (pk : Option Addr) (lk ck : Nat) (fk : Nat → Int),
      v = .agg #[.slice pr lr cr, .slice pt lt ct, .bool b0, .slice pk lk ck] ∧ Has W pr lr (fun j => .int .i64 (fr j)) ∧ Has W pt lt (fun j => .int .i32 (ft j)) ∧ Has W pk lk (fun j => .int .u64 (fk j)) ∧ (∀ j, j < lk → (Lit.int .u64 (fk j)).wf = true) := by
  obtain ⟨cs, rfl, hsz⟩ := okWide_struct Yba.underlying33 hv
  obtain ⟨c0, c1, c2, c3, rfl⟩ := array4 (hsz.trans Yba.cells33)
  obtain ⟨ds, n, _, hf⟩ := fields_open Yba.underlying33 h
  obtain ⟨_, _, r0⟩ := hf 0 _ c0 rfl rfl Yba.cells22 rfl
  obtain ⟨_, _, r1⟩ := hf 1 _ c1 rfl rfl Yba.cells30 rfl
  obtain ⟨_, _, r2⟩ := hf 2 _ c2 rfl rfl Yba.cells4 rfl
  obtain ⟨_, _, r3⟩ := hf 3 _ c3 rfl rfl Yba.cells31 rfl
  obtain ⟨pr, lr, cr, fr, rfl, _, _, hr, _⟩ := ints_open Yba.underlying22 Yba.underlying3 Yba.cells3 r0
  obtain ⟨pt, lt, ct, ft, rfl, _, _, ht, _⟩ := ints_open Yba.underlying30 Yba.underlying21 Yba.cells21 r1
  obtain ⟨b0, rfl⟩ := one_bool Yba.underlying4 r2
  obtain ⟨pk, lk, ck, fk, rfl, _, _, hk, wk⟩ := ints_open Yba.underlying31 Yba.underlying67 Yba.cells67 r3
  exact ⟨pr, lr, cr, fr, pt, lt, ct, ft, b0, pk, lk, ck, fk, rfl, hr, ht, hk, wk⟩

set_option maxRecDepth 100000 in
theorem sk_open {ts : List TypeId} {DS : List (DataW H)} {j : Nat} (hw : (DataW.weightsEach Yba.prog ts DS).all (· ≤ reachBytes) = true) (hj : ts[j]? = some 35) (hd : DS[j]? = some d)
    (hv : Value.okWide Yba.prog W .any b 35 v) (h : DataW.Trod enc Yba.prog W 0 (fun _ => true) true 35 v d p) :
    ∃ (p1 : Option Addr) (l1 c1 : Nat) (f1 : Nat → Int) (p2 : Option Addr) (l2 c2 : Nat) (f2 : Nat → Int) (p3 : Option Addr) (l3 c3 : Nat) (f3 : Nat → Int) (i0 i1 : Int),
      v = .agg #[.slice p1 l1 c1, .slice p2 l2 c2, .slice p3 l3 c3, .int .i64 i0, .int .i64 i1] ∧ Has W p1 l1 (fun j => .int .u8 (f1 j)) ∧ Has W p2 l2 (fun j => .int .u8 (f2 j)) ∧ Has W p3 l3 (fun j => .int .u8 (f3 j)) ∧
      (∀ j, j < l1 → 0 ≤ f1 j ∧ f1 j ≤ 255) ∧ (∀ j, j < l2 → 0 ≤ f2 j ∧ f2 j ≤ 255) ∧ (∀ j, j < l3 → 0 ≤ f3 j ∧ f3 j ≤ 255) ∧ (p1 = none → l1 = 0 ∧ c1 = 0) ∧ (p2 = none → l2 = 0 ∧ c2 = 0) ∧ (p3 = none → l3 = 0 ∧ c3 = 0) ∧
      (l1 : Int) ≤ 140737488355328 ∧ (l2 : Int) ≤ 140737488355328 ∧ (l3 : Int) ≤ 140737488355328 := by
  obtain ⟨cs, rfl, hsz⟩ := okWide_struct Yba.underlying35 hv
  obtain ⟨c0, c1, c2, c3, c4, rfl⟩ := array5 (hsz.trans Yba.cells35)
  obtain ⟨ds, n, rfl, hf⟩ := fields_open Yba.underlying35 h
  obtain ⟨y0, g0, r0⟩ := hf 0 _ c0 rfl rfl Yba.cells23 rfl
  obtain ⟨y1, g1, r1⟩ := hf 1 _ c1 rfl rfl Yba.cells23 rfl
  obtain ⟨y2, g2, r2⟩ := hf 2 _ c2 rfl rfl Yba.cells23 rfl
  obtain ⟨_, _, r3⟩ := hf 3 _ c3 rfl rfl Yba.cells3 rfl
  obtain ⟨_, _, r4⟩ := hf 4 _ c4 rfl rfl Yba.cells3 rfl
  obtain ⟨p1, l1, k1, f1, rfl, n1, s1, h1, w1⟩ := ints_open Yba.underlying23 Yba.underlying5 Yba.cells5 r0
  obtain ⟨p2, l2, k2, f2, rfl, n2, s2, h2, w2⟩ := ints_open Yba.underlying23 Yba.underlying5 Yba.cells5 r1
  obtain ⟨p3, l3, k3, f3, rfl, n3, s3, h3, w3⟩ := ints_open Yba.underlying23 Yba.underlying5 Yba.cells5 r2
  obtain ⟨i0, rfl, _⟩ := one_int Yba.underlying3 r3
  obtain ⟨i1, rfl, _⟩ := one_int Yba.underlying3 r4
  have e : reachBytes ≤ 140737488355328 := by decide
  refine ⟨p1, l1, k1, f1, p2, l2, k2, f2, p3, l3, k3, f3, i0, i1, rfl, h1, h2, h3, fun j hj => bounds_u8 (w1 j hj), fun j hj => bounds_u8 (w2 j hj), fun j hj => bounds_u8 (w3 j hj), n1, n2, n3, ?_, ?_, ?_⟩
  · rcases s1 with h0 | ⟨el, sp, hy, hl⟩
    · omega
    · have := field_sized (i := 0) hw hj hd Yba.underlying35 rfl (by rw [g0, hy]) Yba.underlying23 Yba.bytes5
      omega
  · rcases s2 with h0 | ⟨el, sp, hy, hl⟩
    · omega
    · have := field_sized (i := 1) hw hj hd Yba.underlying35 rfl (by rw [g1, hy]) Yba.underlying23 Yba.bytes5
      omega
  · rcases s3 with h0 | ⟨el, sp, hy, hl⟩
    · omega
    · have := field_sized (i := 2) hw hj hd Yba.underlying35 rfl (by rw [g2, hy]) Yba.underlying23 Yba.bytes5
      omega
end

end Go.Proofs.Ybulkdyta
