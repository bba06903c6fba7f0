/-
  THE WALKS of cmp.Compare (two instances), strings.Compare, '(valueKey).compare', 'zzs6266bless'.
-/
import Derived.Test.YbulkdytaRows
import Derived.WalkKit
import Derived.WalkSpells
import Derived.WalkLawsBesides
import Derived.Lib.Bytealg
import Derived.WideShapes
namespace Go.Proofs.Ybulkdyta
open Go.RowKit

theorem isNaN_kind (x : Int) (w : World) : Calls Yba.prog 18 #[.int .u8 x] w fun e w' => e = .returned (.bool false) ∧ w' = w := by
  go_enter Yba.func18, Yba.ntmps18
  go_wp2
  go_ret
  exact ⟨rfl, rfl⟩
theorem isNaN_int64 (x : Int) (w : World) : Calls Yba.prog 19 #[.int .i64 x] w fun e w' => e = .returned (.bool false) ∧ w' = w := by
  go_enter Yba.func19, Yba.ntmps19
  go_wp2
  go_ret
  exact ⟨rfl, rfl⟩

/-- The sign of the order of two numbers. -/
def ord (x y : Int) : Int := if x < y then -1 else if y < x then 1 else 0

set_option maxHeartbeats 400000 in
theorem compare_kind (x y : Int) (w : World) : Calls Yba.prog 15 #[.int .u8 x, .int .u8 y] w fun e w' => e = .returned (.int .i64 (ord x y)) ∧ w' = w := by
  unfold ord
  go_enter Yba.func15, Yba.ntmps15
  rcases Int.lt_trichotomy x y with h | h | h
  all_goals
    go_wp2_with (go_at_call 18; refine (isNaN_kind _ _).mono ?_; rintro _ _ ⟨rfl, rfl⟩)
    go_ret
    exact ⟨rfl, rfl⟩
set_option maxHeartbeats 400000 in
theorem compare_int64 (x y : Int) (w : World) : Calls Yba.prog 16 #[.int .i64 x, .int .i64 y] w fun e w' => e = .returned (.int .i64 (ord x y)) ∧ w' = w := by
  unfold ord
  go_enter Yba.func16, Yba.ntmps16
  rcases Int.lt_trichotomy x y with h | h | h
  all_goals
    go_wp2_with (go_at_call 19; refine (isNaN_int64 _ _).mono ?_; rintro _ _ ⟨rfl, rfl⟩)
    go_ret
    exact ⟨rfl, rfl⟩

set_option maxHeartbeats 400000 in
set_option maxRecDepth 100000 in
theorem compareString (a b : ByteArray) (w : World) : Calls Yba.prog 20 #[.string a, .string b] w fun e w' => e = .returned (.int .i64 (Lib.compareBytes a.data.toList b.data.toList)) ∧ w' = w := by
  go_enter Yba.func20, Yba.ntmps20
  go_wp2
  rw [run_callFunc_extern Yba.func21 (by kernel_rfl) (by kernel_rfl) (by kernel_rfl) (e := Extern.BytealgCompare.compare) (by kernel_rfl), Lib.run_compareString]
  simp only [Result.andThen]
  rw [Oper.upon_value]
  go_wp2
  go_ret
  exact ⟨rfl, rfl⟩

set_option maxHeartbeats 400000 in
theorem strings_Compare (a b : ByteArray) (w : World) : Calls Yba.prog 17 #[.string a, .string b] w fun e w' => e = .returned (.int .i64 (Lib.compareBytes a.data.toList b.data.toList)) ∧ w' = w := by
  go_enter Yba.func17, Yba.ntmps17
  go_wp2_with (go_at_call 20; refine (compareString _ _ w).mono ?_; rintro _ _ ⟨rfl, rfl⟩)
  go_ret
  exact ⟨rfl, rfl⟩

/-- The sign of the order of two keys. -/
def keyOrd (k₁ i₁ : Int) (t₁ : ByteArray) (k₂ i₂ : Int) (t₂ : ByteArray) : Int :=
  if k₁ = k₂ then (if i₁ = i₂ then Lib.compareBytes t₁.data.toList t₂.data.toList else ord i₁ i₂) else ord k₁ k₂

theorem below2 (w : World) (o₁ o₂ : Obj) : Below w.heap.size w ((w.alloc o₁).alloc o₂) :=
  ((Below.refl _ w).alloc (Nat.le_refl _) _).alloc (by simp) _

set_option maxHeartbeats 400000 in
theorem key_compare (k₁ i₁ : Int) (t₁ : ByteArray) (k₂ i₂ : Int) (t₂ : ByteArray) (w : World) :
    Calls Yba.prog 14 #[.agg #[.int .u8 k₁, .int .i64 i₁, .string t₁], .agg #[.int .u8 k₂, .int .i64 i₂, .string t₂]] w fun e w' => e = .returned (.int .i64 (keyOrd k₁ i₁ t₁ k₂ i₂ t₂)) ∧ Below w.heap.size w w' := by
  unfold keyOrd
  go_enter Yba.func14, Yba.ntmps14
  by_cases hk : k₁ = k₂
  · by_cases hi : i₁ = i₂
    · go_wp2_with (go_at_call 17; refine (strings_Compare _ _ _).mono ?_; rintro _ _ ⟨rfl, rfl⟩)
      go_ret
      exact ⟨rfl, below2 _ _ _⟩
    · go_wp2_with (go_at_call 16; refine (compare_int64 _ _ _).mono ?_; rintro _ _ ⟨rfl, rfl⟩)
      go_ret
      exact ⟨rfl, below2 _ _ _⟩
  · go_wp2_with (go_at_call 15; refine (compare_kind _ _ _).mono ?_; rintro _ _ ⟨rfl, rfl⟩)
    go_ret
    exact ⟨rfl, below2 _ _ _⟩

/-- The law's own order. -/
def keyLess (k₁ i₁ : Int) (t₁ : ByteArray) (k₂ i₂ : Int) (t₂ : ByteArray) (p₁ p₂ : Int) : Bool :=
  if k₁ = k₂ then (if i₁ = i₂ then (if t₁ = t₂ then decide (p₁ < p₂) else Op.bytesLess t₁.toList t₂.toList) else decide (i₁ < i₂)) else decide (k₁ < k₂)

theorem bytes_ne {a b : ByteArray} (h : ¬ a = b) : (a.toList == b.toList) = false := by
  rw [beq_eq_false_iff_ne]
  intro e
  rw [ByteArray.toList_eq, ByteArray.toList_eq] at e
  exact h (WideShapes.bytes_inj e)

set_option maxHeartbeats 400000 in
theorem own_less (k₁ i₁ : Int) (t₁ : ByteArray) (k₂ i₂ : Int) (t₂ : ByteArray) (p₁ p₂ : Int) (w : World) :
    Calls Yba.prog 12 #[.agg #[.int .u8 k₁, .int .i64 i₁, .string t₁], .agg #[.int .u8 k₂, .int .i64 i₂, .string t₂], .int .i64 p₁, .int .i64 p₂] w fun e w' => e = .returned (.bool (keyLess k₁ i₁ t₁ k₂ i₂ t₂ p₁ p₂)) ∧ Below w.heap.size w w' := by
  unfold keyLess
  go_enter Yba.func12, Yba.ntmps12
  by_cases hk : k₁ = k₂
  · by_cases hi : i₁ = i₂
    · by_cases ht : t₁ = t₂
      · go_wp2
        go_ret
        exact ⟨rfl, below2 _ _ _⟩
      · have hb := bytes_ne ht
        go_wp2
        go_ret
        exact ⟨rfl, below2 _ _ _⟩
    · go_wp2
      go_ret
      exact ⟨rfl, below2 _ _ _⟩
  · go_wp2
    go_ret
    exact ⟨rfl, below2 _ _ _⟩

theorem bytes_order : ∀ a b : List UInt8, (Lib.compareBytes a b = 0 → a = b) ∧ (a = b → Lib.compareBytes a b = 0) ∧ (decide (Lib.compareBytes a b < 0) = Op.bytesLess a b)
  | [], [] => by simp [Lib.compareBytes, Op.bytesLess]
  | [], _ :: _ => by simp [Lib.compareBytes, Op.bytesLess]
  | _ :: _, [] => by simp [Lib.compareBytes, Op.bytesLess]
  | x :: a, y :: b => by
    obtain ⟨h1, h2, h3⟩ := bytes_order a b
    unfold Lib.compareBytes Op.bytesLess
    by_cases hlt : x < y
    · have hne : x ≠ y := fun e => UInt8.lt_irrefl x (e ▸ hlt)
      simp [hlt, hne]
    · by_cases hgt : y < x
      · have hne : x ≠ y := fun e => UInt8.lt_irrefl x (e ▸ hgt)
        simp [hlt, hgt, hne]
      · have e : x = y := UInt8.le_antisymm (UInt8.not_lt.1 hgt) (UInt8.not_lt.1 hlt)
        subst e
        simp only [hlt, if_false, decide_false, Bool.false_or, beq_self_eq_true, Bool.true_and]
        exact ⟨fun h => by rw [h1 h], fun h => h2 (by simpa using h), h3⟩

theorem keyOrd_less (k₁ i₁ : Int) (t₁ : ByteArray) (k₂ i₂ : Int) (t₂ : ByteArray) (p₁ p₂ : Int) :
    (if keyOrd k₁ i₁ t₁ k₂ i₂ t₂ = 0 then decide (p₁ < p₂) else decide (keyOrd k₁ i₁ t₁ k₂ i₂ t₂ < 0)) = keyLess k₁ i₁ t₁ k₂ i₂ t₂ p₁ p₂ := by
  unfold keyOrd keyLess
  have o : ∀ x y : Int, ¬ x = y → ord x y ≠ 0 ∧ decide (ord x y < 0) = decide (x < y) := fun x y h => by
    unfold ord
    rcases Int.lt_trichotomy x y with h1 | h1 | h1
    · simp [h1]
    · exact absurd h1 h
    · have : ¬ x < y := by omega
      simp [h1, this]
  by_cases hk : k₁ = k₂
  · rw [if_pos hk, if_pos hk]
    by_cases hi : i₁ = i₂
    · rw [if_pos hi, if_pos hi]
      obtain ⟨h1, h2, h3⟩ := bytes_order t₁.data.toList t₂.data.toList
      by_cases ht : t₁ = t₂
      · rw [if_pos ht, if_pos (h2 (by rw [ht]))]
      · rw [if_neg ht, if_neg (fun e => ht (WideShapes.bytes_inj (h1 e))), h3, ByteArray.toList_eq, ByteArray.toList_eq]
    · rw [if_neg hi, if_neg hi, if_neg (o _ _ hi).1, (o _ _ hi).2]
  · rw [if_neg hk, if_neg hk, if_neg (o _ _ hk).1, (o _ _ hk).2]

end Go.Proofs.Ybulkdyta
