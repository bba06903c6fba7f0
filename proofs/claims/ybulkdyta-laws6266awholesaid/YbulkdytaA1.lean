/-
  STATEMENT LawS6266AWhole: AIDS: the law's code statement by statement; what was there stays there; the input.
-/
import Derived.Test.YbulkdytaRows
import Derived.WalkKit
import Derived.WalkSpells
import Derived.WalkLawsBesides
import Derived.Laws.MakeOwn
import Derived.BigQuiet
import Derived.Deep.QuietTactic
import Derived.LaidEql
namespace Go.Proofs.Ybulkdyta
open Go.RowKit

/-- The code behind the first n statements. -/
def dropSeq : Nat → Code → Code
  | 0, c => c
  | n + 1, .seq _ b => dropSeq n b
  | _ + 1, c => c

/-- The n-th statement. -/
def nthSeq : Nat → Code → Code
  | 0, .seq a _ => a
  | n + 1, .seq _ b => nthSeq n b
  | _, c => c

/-- A fact that the walk is not to use. -/
def Hid (p : Prop) : Prop := p
theorem Hid.out {p : Prop} (h : Hid p) : p := h

/-- What was there is there, but for the blocks in S. -/
structure Kept (S : Nat → Prop) (w w' : World) : Prop where
  os : w'.os = w.os
  tape : w'.tape = w.tape
  output : w'.output = w.output
  size : w.heap.size ≤ w'.heap.size
  block : ∀ k, k < w.heap.size → ¬ S k → w'.heap[k]? = w.heap[k]?

theorem Kept.refl (S : Nat → Prop) (w : World) : Kept S w w := ⟨rfl, rfl, rfl, Nat.le_refl _, fun _ _ _ => rfl⟩
theorem Kept.trans {S : Nat → Prop} {a b c : World} (h : Kept S a b) (k : Kept S b c) : Kept S a c :=
  ⟨k.os.trans h.os, k.tape.trans h.tape, k.output.trans h.output, Nat.le_trans h.size k.size, fun j hj hs => by
    rw [k.block j (Nat.lt_of_lt_of_le hj h.size) hs, h.block j hj hs]⟩
theorem Kept.of_below {S : Nat → Prop} {w w' : World} (h : Below w.heap.size w w') : Kept S w w' := ⟨h.os, h.tape, h.output, h.size, fun k hk _ => h.block k hk⟩
theorem Kept.of_grown {S : Nat → Prop} {w w' : World} {row : Option Nat} (h : w.grownBy w' row) (hr : ∀ k, row = some k → S k) : Kept S w w' :=
  ⟨h.os, h.tape, h.output, h.size, fun k hk hs => h.block k hk (fun e => hs (hr k e.symm))⟩
theorem Kept.set {S : Nat → Prop} (w : World) (a : Addr) (u : Value) (h : S a.block) : Kept S w (w.setCell a u) :=
  ⟨rfl, rfl, rfl, by simp, fun k _ hs => Below.heap_setCell _ _ _ _ (fun e => hs (by rw [e]; exact h))⟩
theorem Kept.alloc (S : Nat → Prop) (w : World) (o : Obj) : Kept S w (w.alloc o) := .of_below ((Below.refl _ w).alloc (Nat.le_refl _) o)
theorem Kept.drew (S : Nat → Prop) (w : World) : Kept S w w.drew := ⟨rfl, rfl, rfl, Nat.le_refl _, fun _ _ _ => rfl⟩
theorem Kept.below {S : Nat → Prop} {w w' : World} {B : Nat} (h : Kept S w w') (hB : B ≤ w.heap.size) (hS : ∀ k, S k → B ≤ k) : Below B w w' :=
  ⟨h.os, h.tape, h.output, h.size, fun k hk => h.block k (by omega) (fun hs => by have := hS k hs; omega)⟩
theorem Kept.mono {S T : Nat → Prop} {w w' : World} (h : Kept S w w') (hst : ∀ k, S k → T k) : Kept T w w' := ⟨h.os, h.tape, h.output, h.size, fun k hk ht => h.block k hk (fun hs => ht (hst k hs))⟩
theorem Kept.cell {S : Nat → Prop} {w w' : World} {a : Addr} {v : Value} (h : Kept S w w') (hc : w.cell? a = some v) (hs : ¬ S a.block) : w'.cell? a = some v := by
  rw [World.cell?_of_block (h.block _ (World.block_lt_of_cell? w a hc) hs)]; exact hc
theorem Kept.frozen {S : Nat → Prop} {w w' : World} {a : Addr} {v : Value} {x : Bool} (h : Kept S w w') (hc : w.cell? a = some v) (hf : w.frozen? a = x) (hs : ¬ S a.block) : w'.frozen? a = x := by
  rw [World.frozen?_of_block (h.block _ (World.block_lt_of_cell? w a hc) hs)]; exact hf

/-- A slice's elements, one cell each. -/
def Has (w : World) (p : Option Addr) (n : Nat) (f : Nat → Value) : Prop := ∀ j, j < n → ∃ x, p = some x ∧ w.cell? (x.add j) = some (f j)

theorem Has.later {w w' : World} {p : Option Addr} {n : Nat} {f : Nat → Value} (h : Has w p n f) (hb : Below w.heap.size w w') : Has w' p n f := fun j hj => by
  obtain ⟨x, hx, hc⟩ := h j hj
  exact ⟨x, hx, by rw [hb.cell (World.block_lt_of_cell? w _ hc)]; exact hc⟩

theorem Has.kept {S : Nat → Prop} {w w' : World} {p : Option Addr} {n : Nat} {f : Nat → Value} (h : Has w p n f) (k : Kept S w w') (hs : ∀ x, p = some x → ¬ S x.block) : Has w' p n f := fun j hj => by
  obtain ⟨x, hx, hc⟩ := h j hj
  refine ⟨x, hx, k.cell hc ?_⟩
  have : (x.add j).block = x.block := by unfold Addr.add; split <;> rfl
  rw [this]; exact hs x hx

theorem Has.at {w : World} {p : Option Addr} {n : Nat} {f : Nat → Value} (h : Has w p n f) (hn : 0 < n) : ∃ b o, p = some ⟨b, o, none⟩ ∧ ∀ j, j < n → w.cell? ⟨b, o + j, none⟩ = some (f j) := by
  obtain ⟨x, rfl, hc0⟩ := h 0 hn
  obtain ⟨b, o, s⟩ := x
  have hs : s = none := by
    have := World.cell?_spot hc0
    simpa [Addr.add] using this
  subst hs
  refine ⟨b, o, rfl, fun j hj => ?_⟩
  obtain ⟨y, hy, hc⟩ := h j hj
  obtain rfl : (⟨b, o, none⟩ : Addr) = y := by simpa using hy
  rw [Addr.add_lit] at hc
  exact hc

/-- 'make' of n elements: a new block. -/
theorem make_any {P : Program} {t e : TypeId} {z : Value} {size bytes : Nat} (ht : P.underlying t = some (.slice e)) (hinfo : (P.info? e).map (fun i => (i.zero, i.size, i.bytes)) = some (some z, size, bytes)) (n : Nat) (hb : bytes * n ≤ 281474976710656) (hn : n ≤ 65536) :
    ∃ M : Array Value, M = madeCells z.cells (n * size) ∧ ∀ w : World, (Instr.makeSlice t (.int .i64 (n : Int)) (.int .i64 (n : Int))).run P w = .ok (.slice (some ⟨w.heap.size, 0, none⟩) n n) (w.alloc (.cells M e)) := by
  obtain ⟨i, hi, hz⟩ := Option.map_eq_some_iff.1 hinfo
  simp only [Prod.mk.injEq] at hz
  obtain ⟨hz0, hz1, hz2⟩ := hz
  subst hz1 hz2
  refine ⟨_, rfl, fun w => ?_⟩
  have hb' : (i.bytes : Int) * (n : Int) ≤ 281474976710656 := by
    have h : ((i.bytes * n : Nat) : Int) ≤ 281474976710656 := by omega
    rwa [Int.natCast_mul] at h
  have := run_make (P := P) w t e i z ht hi hz0 .i64 .i64 n n (by omega) (Int.le_refl _) hb' (by omega)
  simpa using this

theorem make_some {P : Program} {t e : TypeId} {size bytes : Nat} (ht : P.underlying t = some (.slice e)) (hinfo : (P.info? e).map (fun i => (i.zero.isSome, i.size, i.bytes)) = some (true, size, bytes)) (n : Nat) (hb : bytes * n ≤ 281474976710656) (hn : n ≤ 65536) :
    ∃ M : Array Value, M.size = n * size ∧ ∀ w : World, (Instr.makeSlice t (.int .i64 (n : Int)) (.int .i64 (n : Int))).run P w = .ok (.slice (some ⟨w.heap.size, 0, none⟩) n n) (w.alloc (.cells M e)) := by
  obtain ⟨i, hi, hz⟩ := Option.map_eq_some_iff.1 hinfo
  simp only [Prod.mk.injEq] at hz
  obtain ⟨hz0, hz1, hz2⟩ := hz
  obtain ⟨z, hz⟩ := Option.isSome_iff_exists.1 hz0
  obtain ⟨M, hM, h⟩ := make_any (P := P) (t := t) (e := e) (z := z) (size := size) (bytes := bytes) ht (by rw [hi]; simp [hz, hz1, hz2]) n hb hn
  exact ⟨M, by rw [hM, size_madeCells], h⟩

theorem Yba.i156 : (Yba.prog.info? 156).map (fun i => (i.zero.isSome, i.size, i.bytes)) = some (true, 2, 48) := by kernel_rfl
theorem Yba.i39 : (Yba.prog.info? 39).map (fun i => (i.zero.isSome, i.size, i.bytes)) = some (true, 1, 24) := by kernel_rfl
theorem Yba.i41 : (Yba.prog.info? 41).map (fun i => (i.zero.isSome, i.size, i.bytes)) = some (true, 3, 40) := by kernel_rfl
theorem Yba.i52 : (Yba.prog.info? 52).map (fun i => (i.zero.isSome, i.size, i.bytes)) = some (true, 1, 1) := by kernel_rfl
theorem Yba.i55 : (Yba.prog.info? 55).map (fun i => (i.zero.isSome, i.size, i.bytes)) = some (true, 1, 8) := by kernel_rfl
theorem Yba.i62 : (Yba.prog.info? 62).map (fun i => (i.zero.isSome, i.size, i.bytes)) = some (true, 4, 48) := by kernel_rfl
theorem Yba.i65 : (Yba.prog.info? 65).map (fun i => (i.zero.isSome, i.size, i.bytes)) = some (true, 2, 8) := by kernel_rfl
theorem Yba.i107 : (Yba.prog.info? 107).map (fun i => (i.zero.isSome, i.size, i.bytes)) = some (true, 1, 24) := by kernel_rfl
theorem Yba.i109 : (Yba.prog.info? 109).map (fun i => (i.zero.isSome, i.size, i.bytes)) = some (true, 1, 24) := by kernel_rfl
theorem Yba.i111 : (Yba.prog.info? 111).map (fun i => (i.zero.isSome, i.size, i.bytes)) = some (true, 1, 24) := by kernel_rfl
theorem Yba.i72 : (Yba.prog.info? 72).map (fun i => (i.zero.isSome, i.size, i.bytes)) = some (true, 5, 56) := by kernel_rfl
theorem Yba.i80 : (Yba.prog.info? 80).map (fun i => (i.zero.isSome, i.size, i.bytes)) = some (true, 12, 104) := by kernel_rfl
theorem Yba.i85 : (Yba.prog.info? 85).map (fun i => (i.zero.isSome, i.size, i.bytes)) = some (true, 23, 192) := by kernel_rfl

/-- A row of N cells, none of them frozen. -/
structure RowN (w : World) (S N : Nat) : Prop where
  there : ∀ j, j < N → ∃ v, w.cell? ⟨S, j, none⟩ = some v
  free : ∀ j, j < N → w.frozen? ⟨S, j, none⟩ = false

theorem RowN.new (w : World) (M : Array Value) (e : TypeId) (N : Nat) (h : M.size = N) : RowN (w.alloc (.cells M e)) w.heap.size N := by
  subst h
  refine ⟨fun j hj => ⟨M[j], ?_⟩, fun j hj => ?_⟩
  · rw [World.cell?_alloc_at _ _ _ _ rfl]
    simp [hj]
  · exact World.frozen?_alloc_at _ _ _ _ rfl

theorem RowN.kept {S : Nat → Prop} {w w' : World} {R N : Nat} (h : RowN w R N) (k : Kept S w w') (hS : ¬ S R) : RowN w' R N :=
  ⟨fun j hj => by obtain ⟨v, hv⟩ := h.there j hj; exact ⟨v, k.cell hv hS⟩, fun j hj => by obtain ⟨v, hv⟩ := h.there j hj; exact k.frozen hv (h.free j hj) hS⟩

theorem RowN.later {w w' : World} {R N : Nat} (h : RowN w R N) (hb : Below w.heap.size w w') : RowN w' R N := h.kept (S := fun _ => False) (Kept.of_below hb) (fun x => x)

theorem RowN.set {w : World} {R N : Nat} (h : RowN w R N) (o : Nat) (u : Value) : RowN (w.setCell ⟨R, o, none⟩ u) R N := by
  refine ⟨fun j hj => ?_, fun j hj => ?_⟩
  · obtain ⟨v, hv⟩ := h.there j hj
    by_cases hjo : j = o
    · subst hjo; exact ⟨u, by go_simp⟩
    · exact ⟨v, by go_simp⟩
  · have := h.free j hj
    go_simp

theorem Below.setCell_new {w w1 : World} {B : Nat} (h : Below B w w1) (a : Addr) (u : Value) (ha : B ≤ a.block) : Below B w (w1.setCell a u) :=
  ⟨h.os, h.tape, h.output, by have := h.size; simp; omega, fun k hk => by rw [Below.heap_setCell _ _ _ _ (by omega)]; exact h.block k hk⟩

/-- The input of the law. -/
structure In where
  asks : Int
  budget : Int
  steps : Int
  limit : Int
  levels : Int
  maxl : Int
  block : Int
  used : Int
  pol : Nat
  con : Nat
  spare : Nat
  ans : Bool
  tr : Bool
  exh : Bool
  nm1 : Bool
  nm2 : Bool
  pa : Option Addr
  pc : Option Addr
  pn : Option Addr
  pl : Option Addr
  pr : Option Addr
  pt : Option Addr
  pk : Option Addr
  p1 : Option Addr
  p2 : Option Addr
  p3 : Option Addr
  la : Nat
  lc : Nat
  ln : Nat
  ll : Nat
  lr : Nat
  lt : Nat
  lk : Nat
  l1 : Nat
  l2 : Nat
  l3 : Nat
  ca : Nat
  cc : Nat
  cn : Nat
  cl : Nat
  cr : Nat
  ct : Nat
  ck : Nat
  c1 : Nat
  c2 : Nat
  c3 : Nat
  fa : Nat → Int
  fc : Nat → Int
  fn : Nat → ByteArray
  fl : Nat → Bool
  fr : Nat → Int
  ft : Nat → Int
  fk : Nat → Int
  f1 : Nat → Int
  f2 : Nat → Int
  f3 : Nat → Int

def In.st (I : In) : Value := .agg #[.int .i64 I.asks, .int .i64 I.budget, .int .i64 I.steps, .int .i64 I.limit, .int .i64 I.levels, .int .i64 I.maxl, .bool I.ans, .bool I.tr, .bool I.exh, .int .u8 I.pol, .int .u8 I.con, .slice I.pa I.la I.ca, .slice I.pc I.lc I.cc]
def In.ix (I : In) : Value := .agg #[.bool I.nm1, .slice I.pn I.ln I.cn, .slice I.pl I.ll I.cl, .int .u8 I.spare]
def In.pd (I : In) : Value := .agg #[.slice I.pr I.lr I.cr, .slice I.pt I.lt I.ct, .bool I.nm2, .slice I.pk I.lk I.ck]
def In.sk (I : In) : Value := .agg #[.slice I.p1 I.l1 I.c1, .slice I.p2 I.l2 I.c2, .slice I.p3 I.l3 I.c3, .int .i64 I.block, .int .i64 I.used]

/-- What the law reads of the input. -/
structure In.Ok (I : In) (w : World) : Prop where
  a : Has w I.pa I.la (fun j => .int .i64 (I.fa j))
  c : Has w I.pc I.lc (fun j => .int .u8 (I.fc j))
  n : Has w I.pn I.ln (fun j => .string (I.fn j))
  l : Has w I.pl I.ll (fun j => .bool (I.fl j))
  r : Has w I.pr I.lr (fun j => .int .i64 (I.fr j))
  t : Has w I.pt I.lt (fun j => .int .i32 (I.ft j))
  k : Has w I.pk I.lk (fun j => .int .u64 (I.fk j))
  b1 : Has w I.p1 I.l1 (fun j => .int .u8 (I.f1 j))
  b2 : Has w I.p2 I.l2 (fun j => .int .u8 (I.f2 j))
  b3 : Has w I.p3 I.l3 (fun j => .int .u8 (I.f3 j))

/-- The bounds of the input. -/
structure In.Fine (I : In) : Prop where
  pol : I.pol ≤ 255
  con : I.con ≤ 255
  spare : I.spare ≤ 255
  la : I.la ≤ 65536
  lc : I.lc ≤ 65536
  ln : I.ln ≤ 1024
  lr : I.lr ≤ 65536
  lt : I.lt ≤ 65536
  lk : I.lk ≤ 1024
  l1 : I.l1 ≤ 1024
  l2 : I.l2 ≤ 1024
  l3 : I.l3 ≤ 1024
  cn : ∀ j, j < I.ln → (I.fn j).size ≤ maxLen
  k0 : ∀ j, j < I.lk → (Lit.int .u64 (I.fk j)).wf = true
  a0 : ∀ j, j < I.la → (Lit.int .i64 (I.fa j)).wf = true
  b1 : ∀ j, j < I.l1 → 0 ≤ I.f1 j ∧ I.f1 j ≤ 255
  b2 : ∀ j, j < I.l2 → 0 ≤ I.f2 j ∧ I.f2 j ≤ 255
  b3 : ∀ j, j < I.l3 → 0 ≤ I.f3 j ∧ I.f3 j ≤ 255
  n1 : I.p1 = none → I.l1 = 0 ∧ I.c1 = 0
  n2 : I.p2 = none → I.l2 = 0 ∧ I.c2 = 0
  n3 : I.p3 = none → I.l3 = 0 ∧ I.c3 = 0

/-- The four boxes, and the slices that they lead to. -/
structure Base (I : In) (B : Nat) (w : World) : Prop where
  s0 : w.cell? ⟨B, 0, none⟩ = some (.int .i64 I.asks)
  s1 : w.cell? ⟨B, 1, none⟩ = some (.int .i64 I.budget)
  s2 : w.cell? ⟨B, 2, none⟩ = some (.int .i64 I.steps)
  s3 : w.cell? ⟨B, 3, none⟩ = some (.int .i64 I.limit)
  s4 : w.cell? ⟨B, 4, none⟩ = some (.int .i64 I.levels)
  s5 : w.cell? ⟨B, 5, none⟩ = some (.int .i64 I.maxl)
  s6 : w.cell? ⟨B, 6, none⟩ = some (.bool I.ans)
  s7 : w.cell? ⟨B, 7, none⟩ = some (.bool I.tr)
  s8 : w.cell? ⟨B, 8, none⟩ = some (.bool I.exh)
  s9 : w.cell? ⟨B, 9, none⟩ = some (.int .u8 I.pol)
  s10 : w.cell? ⟨B, 10, none⟩ = some (.int .u8 I.con)
  s11 : w.cell? ⟨B, 11, none⟩ = some (.slice I.pa I.la I.ca)
  s12 : w.cell? ⟨B, 12, none⟩ = some (.slice I.pc I.lc I.cc)
  x0 : w.cell? ⟨B + 1, 0, none⟩ = some (.bool I.nm1)
  x1 : w.cell? ⟨B + 1, 1, none⟩ = some (.slice I.pn I.ln I.cn)
  x2 : w.cell? ⟨B + 1, 2, none⟩ = some (.slice I.pl I.ll I.cl)
  x3 : w.cell? ⟨B + 1, 3, none⟩ = some (.int .u8 I.spare)
  d0 : w.cell? ⟨B + 2, 0, none⟩ = some (.slice I.pr I.lr I.cr)
  d1 : w.cell? ⟨B + 2, 1, none⟩ = some (.slice I.pt I.lt I.ct)
  d2 : w.cell? ⟨B + 2, 2, none⟩ = some (.bool I.nm2)
  d3 : w.cell? ⟨B + 2, 3, none⟩ = some (.slice I.pk I.lk I.ck)
  k0 : w.cell? ⟨B + 3, 0, none⟩ = some (.slice I.p1 I.l1 I.c1)
  k1 : w.cell? ⟨B + 3, 1, none⟩ = some (.slice I.p2 I.l2 I.c2)
  k2 : w.cell? ⟨B + 3, 2, none⟩ = some (.slice I.p3 I.l3 I.c3)
  k3 : w.cell? ⟨B + 3, 3, none⟩ = some (.int .i64 I.block)
  k4 : w.cell? ⟨B + 3, 4, none⟩ = some (.int .i64 I.used)

theorem Base.kept {S : Nat → Prop} {w w' : World} {I : In} {B : Nat} (h : Base I B w) (k : Kept S w w') (h0 : ¬ S B) (h1 : ¬ S (B + 1)) (h2 : ¬ S (B + 2)) (h3 : ¬ S (B + 3)) : Base I B w' :=
  ⟨k.cell h.s0 h0, k.cell h.s1 h0, k.cell h.s2 h0, k.cell h.s3 h0, k.cell h.s4 h0, k.cell h.s5 h0, k.cell h.s6 h0, k.cell h.s7 h0, k.cell h.s8 h0, k.cell h.s9 h0, k.cell h.s10 h0, k.cell h.s11 h0, k.cell h.s12 h0,
   k.cell h.x0 h1, k.cell h.x1 h1, k.cell h.x2 h1, k.cell h.x3 h1, k.cell h.d0 h2, k.cell h.d1 h2, k.cell h.d2 h2, k.cell h.d3 h2, k.cell h.k0 h3, k.cell h.k1 h3, k.cell h.k2 h3, k.cell h.k3 h3, k.cell h.k4 h3⟩
theorem Base.later {w w' : World} {I : In} {B : Nat} (h : Base I B w) (hb : Below w.heap.size w w') : Base I B w' :=
  h.kept (S := fun _ => False) (Kept.of_below hb) (fun x => x) (fun x => x) (fun x => x) (fun x => x)
theorem In.Ok.later {w w' : World} {I : In} (h : I.Ok w) (hb : Below w.heap.size w w') : I.Ok w' :=
  ⟨h.a.later hb, h.c.later hb, h.n.later hb, h.l.later hb, h.r.later hb, h.t.later hb, h.k.later hb, h.b1.later hb, h.b2.later hb, h.b3.later hb⟩

end Go.Proofs.Ybulkdyta
