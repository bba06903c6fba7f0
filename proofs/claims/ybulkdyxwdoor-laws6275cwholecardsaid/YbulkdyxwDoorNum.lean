/-
  THE WALK of 'zzs6275cnum': the law's own reading of a decimal numeral.
-/
import Derived.Test.YbulkdyxwDoorRows
import Derived.WalkKit
import Derived.WalkSpells
import Derived.WalkLawsBesides
import Derived.Lib.AtoiAll
namespace Go.Proofs.YbulkdyxwDoor
open Go.RowKit

/-- What Atoi gives, the error dropped. -/
def numOf (l : List UInt8) : Int :=
  match Lib.atoiAll l with
  | .ok v => v
  | .syntax => 0
  | .range => Lib.atoiSat l

/-- The number out of the digits' end, by the sign. -/
def signed (neg : Bool) (e : Lib.NumEnd Nat) : Int :=
  match e with
  | .syntax => 0
  | .range => if neg then -9223372036854775808 else 9223372036854775807
  | .ok u => if neg then (if 9223372036854775808 < u then -9223372036854775808 else -(u : Int)) else (if 9223372036854775808 ≤ u then 9223372036854775807 else (u : Int))

/-- The loop's relation, out of the walk's sight. -/
def At (l : List UInt8) (k : Nat) (a : Int) : Prop := ∃ acc : Nat, a = acc ∧ acc < 18446744073709551616 ∧ Lib.parseUint10 0 l = Lib.parseUint10 acc (l.drop k)

theorem drop_at (t : ByteArray) (k : Nat) (h : k < t.size) : t.data.toList.drop k = t[k] :: t.data.toList.drop (k + 1) := by
  have hl : k < t.data.toList.length := by simpa using h
  rw [List.drop_eq_getElem_cons hl]
  rfl

theorem At.bad {t : ByteArray} {k : Nat} {a : Int} (hA : At t.data.toList k a) (h : k < t.size) (hc : ((t[k]'h).toNat : Int) < 48 ∨ 57 < ((t[k]'h).toNat : Int)) : Lib.parseUint10 0 t.data.toList = .syntax := by
  obtain ⟨acc, rfl, _, e⟩ := hA
  rw [e, drop_at t k h, Lib.parseUint10, if_neg (by omega)]

theorem At.over {t : ByteArray} {k : Nat} {a : Int} (hA : At t.data.toList k a) (h : k < t.size) (h0 : 48 ≤ ((t[k]'h).toNat : Int)) (h1 : ((t[k]'h).toNat : Int) ≤ 57)
    (ho : (18446744073709551615 - (((t[k]'h).toNat : Int) - 48)) / 10 < a) : Lib.parseUint10 0 t.data.toList = .range := by
  obtain ⟨acc, rfl, _, e⟩ := hA
  rw [e, drop_at t k h, Lib.parseUint10, if_pos (by omega)]
  by_cases h2 : 1844674407370955162 ≤ acc
  · rw [if_pos h2]
  · rw [if_neg h2, if_pos (by omega)]

theorem At.next {t : ByteArray} {k : Nat} {a : Int} (hA : At t.data.toList k a) (h : k < t.size) (h0 : 48 ≤ ((t[k]'h).toNat : Int)) (h1 : ((t[k]'h).toNat : Int) ≤ 57)
    (ho : a ≤ (18446744073709551615 - (((t[k]'h).toNat : Int) - 48)) / 10) : At t.data.toList (k + 1) (a * 10 + (((t[k]'h).toNat : Int) - 48)) := by
  obtain ⟨acc, rfl, _, e⟩ := hA
  refine ⟨acc * 10 + ((t[k]'h).toNat - 48), by omega, by omega, ?_⟩
  rw [e, drop_at t k h, Lib.parseUint10, if_pos (by omega), if_neg (by omega), if_neg (by omega)]

theorem At.done {t : ByteArray} {k : Nat} {a : Int} (hA : At t.data.toList k a) (h : t.size ≤ k) : ∃ acc : Nat, a = acc ∧ Lib.parseUint10 0 t.data.toList = .ok acc := by
  obtain ⟨acc, rfl, _, e⟩ := hA
  refine ⟨acc, rfl, ?_⟩
  have hd : t.data.toList.drop k = [] := List.drop_eq_nil_iff.2 (by simpa using h)
  rw [e, hd, Lib.parseUint10]

theorem signed_big {u : Nat} (h : 9223372036854775808 ≤ u) : signed false (.ok u) = 9223372036854775807 := by simp [signed, h]
theorem signed_small {u : Nat} {a : Int} (ha : a = u) (h : u < 9223372036854775808) : signed false (.ok u) = a := by
  have : ¬ 9223372036854775808 ≤ u := by omega
  simp [signed, this, ha]
theorem signed_least {u : Nat} (h : 9223372036854775808 < u) : signed true (.ok u) = -9223372036854775808 := by simp [signed, h]
theorem signed_edge {u : Nat} (h : u = 9223372036854775808) : signed true (.ok u) = -9223372036854775808 := by subst h; rfl
theorem signed_neg {u : Nat} {a : Int} (ha : a = u) (h : u < 9223372036854775808) : signed true (.ok u) = -a := by
  have : ¬ 9223372036854775808 < u := by omega
  simp [signed, this, ha]

set_option maxHeartbeats 400000 in
set_option maxRecDepth 100000 in
theorem num_empty (w : World) (s : ByteArray) (hz : s.size = 0) : Calls Ybad.prog 4 #[.string s] w fun e w' => e = .returned (.int .i64 0) ∧ w' = w := by
  go_enter Ybad.func4, Ybad.ntmps4
  go_wp2
  go_ret
  exact ⟨rfl, rfl⟩

set_option maxHeartbeats 400000 in
set_option maxRecDepth 100000 in
theorem num_sign_only (w : World) (s : ByteArray) (hz : 0 < s.size) (h1 : s.size = 1) (hc : ((s[0]'hz).toNat : Int) = 43 ∨ ((s[0]'hz).toNat : Int) = 45) : Calls Ybad.prog 4 #[.string s] w fun e w' => e = .returned (.int .i64 0) ∧ w' = w := by
  have hz' : (0 : Int) < (s.size : Int) := by omega
  rcases hc with h43 | h45
  · have b43 : (((s[0]'hz).toNat : Int) == 43) = true := by simpa using h43
    go_enter Ybad.func4, Ybad.ntmps4
    go_wp2
    go_ret
    exact ⟨rfl, rfl⟩
  · have b43 : (((s[0]'hz).toNat : Int) == 43) = false := by rw [h45]; rfl
    have b45 : (((s[0]'hz).toNat : Int) == 45) = true := by simpa using h45
    go_enter Ybad.func4, Ybad.ntmps4
    go_wp2
    go_ret
    exact ⟨rfl, rfl⟩

set_option maxHeartbeats 800000 in
set_option maxRecDepth 100000 in
theorem num_plain (s : ByteArray) (w : World) (hm : s.size ≤ 1048576) (hz : 0 < s.size) (h43 : ((s[0]'hz).toNat : Int) ≠ 43) (h45 : ((s[0]'hz).toNat : Int) ≠ 45) :
    Calls Ybad.prog 4 #[.string s] w fun e w' => e = .returned (.int .i64 (signed false (Lib.parseUint10 0 s.data.toList))) ∧ w' = w := by
  have hz' : (0 : Int) < (s.size : Int) := by omega
  have b43 : (((s[0]'hz).toNat : Int) == 43) = false := by simpa using h43
  have b45 : (((s[0]'hz).toNat : Int) == 45) = false := by simpa using h45
  obtain ⟨R, hR⟩ : ∃ R, Hid (R = signed false (Lib.parseUint10 0 s.data.toList)) := ⟨_, rfl⟩
  rw [← hR.out]
  go_enter Ybad.func4, Ybad.ntmps4
  go_wp2
  go_loop [4, 5] (fun u i => ∃ (k : Nat) (a : Int), k ≤ s.size ∧ i = .int .i64 k ∧ u = .int .u64 a ∧ 0 ≤ a ∧ a ≤ 18446744073709551615 ∧ At s.data.toList k a) (fun _ i => s.size - (intOf i).toNat)
  case atStart => exact ⟨0, 0, Nat.zero_le _, rfl, rfl, by omega, by omega, 0, rfl, by omega, rfl⟩
  case round =>
    obtain ⟨k, a, hk, rfl, rfl, ha0, ha1, hA⟩ := hrel
    by_cases hlt : k < s.size
    · have hl : (k : Int) < (s.size : Int) := by omega
      have hc0 : 0 ≤ (((s[k]'hlt).toNat : Nat) : Int) := by omega
      by_cases hc1 : (((s[k]'hlt).toNat : Nat) : Int) < 48
      · have hr : Hid (_ = _) := hA.bad hlt (.inl hc1)
        go_wp2
        go_ret
        exact ⟨congrArg (fun z => Ending.returned (Value.int .i64 z)) (by rw [hR.out, hr.out]; rfl), rfl⟩
      · by_cases hc2 : 57 < (((s[k]'hlt).toNat : Nat) : Int)
        · have hr : Hid (_ = _) := hA.bad hlt (.inr hc2)
          go_wp2
          go_ret
          exact ⟨congrArg (fun z => Ending.returned (Value.int .i64 z)) (by rw [hR.out, hr.out]; rfl), rfl⟩
        · by_cases ho : (18446744073709551615 - ((((s[k]'hlt).toNat : Nat) : Int) - 48)) / 10 < a
          · have hr : Hid (_ = _) := hA.over hlt (by omega) (by omega) ho
            go_wp2
            go_ret
            exact ⟨congrArg (fun z => Ending.returned (Value.int .i64 z)) (by rw [hR.out, hr.out]; rfl), rfl⟩
          · have hn := hA.next hlt (by omega) (by omega) (by omega)
            go_wp2
            go_round
            case rel => exact ⟨k + 1, _, by omega, by go_num, rfl, by omega, by omega, hn⟩
            case measure => simp [intOf]; omega
    · obtain ⟨acc, hx⟩ : ∃ acc : Nat, Hid (a = acc ∧ Lib.parseUint10 0 s.data.toList = .ok acc) := hA.done (by omega)
      have hge : (s.size : Int) ≤ (k : Int) := by omega
      by_cases hb : 9223372036854775808 ≤ a
      · go_wp2
        go_ret
        exact ⟨congrArg (fun z => Ending.returned (Value.int .i64 z)) (by rw [hR.out, hx.out.2, signed_big (by have := hx.out.1; omega)]), rfl⟩
      · go_wp2
        go_ret
        exact ⟨congrArg (fun z => Ending.returned (Value.int .i64 z)) (by rw [hR.out, hx.out.2, signed_small hx.out.1 (by have := hx.out.1; omega)]), rfl⟩

set_option maxHeartbeats 800000 in
set_option maxRecDepth 100000 in
theorem num_plus (s : ByteArray) (w : World) (hm : s.size ≤ 1048576) (hz : 0 < s.size) (hs1 : 1 < s.size) (h4 : ((s[0]'hz).toNat : Int) = 43) :
    Calls Ybad.prog 4 #[.string s] w fun e w' => e = .returned (.int .i64 (signed false (Lib.parseUint10 0 (s.extract 1 s.size).data.toList))) ∧ w' = w := by
  have hz' : (0 : Int) < (s.size : Int) := by omega
  have b43 : (((s[0]'hz).toNat : Int) == 43) = true := by simpa using h4
  have b45 : (((s[0]'hz).toNat : Int) == 45) = false := by rw [h4]; rfl
  have hs1' : (1 : Int) ≤ (s.size : Int) := by omega
  have hsne : (((s.size - 1 : Nat) : Int) == 0) = false := by simp; omega
  obtain ⟨R, hR⟩ : ∃ R, Hid (R = signed false (Lib.parseUint10 0 (s.extract 1 s.size).data.toList)) := ⟨_, rfl⟩
  rw [← hR.out]
  go_enter Ybad.func4, Ybad.ntmps4
  go_wp2
  have htm : (s.extract 1 s.size).size ≤ 1048576 := by simp; omega
  generalize s.extract 1 s.size = t at htm hR ⊢
  go_loop [4, 5] (fun u i => ∃ (k : Nat) (a : Int), k ≤ t.size ∧ i = .int .i64 k ∧ u = .int .u64 a ∧ 0 ≤ a ∧ a ≤ 18446744073709551615 ∧ At t.data.toList k a) (fun _ i => t.size - (intOf i).toNat)
  case atStart => exact ⟨0, 0, Nat.zero_le _, rfl, rfl, by omega, by omega, 0, rfl, by omega, rfl⟩
  case round =>
    obtain ⟨k, a, hk, rfl, rfl, ha0, ha1, hA⟩ := hrel
    by_cases hlt : k < t.size
    · have hl : (k : Int) < (t.size : Int) := by omega
      have hc0 : 0 ≤ (((t[k]'hlt).toNat : Nat) : Int) := by omega
      by_cases hc1 : (((t[k]'hlt).toNat : Nat) : Int) < 48
      · have hr : Hid (_ = _) := hA.bad hlt (.inl hc1)
        go_wp2
        go_ret
        exact ⟨congrArg (fun z => Ending.returned (Value.int .i64 z)) (by rw [hR.out, hr.out]; rfl), rfl⟩
      · by_cases hc2 : 57 < (((t[k]'hlt).toNat : Nat) : Int)
        · have hr : Hid (_ = _) := hA.bad hlt (.inr hc2)
          go_wp2
          go_ret
          exact ⟨congrArg (fun z => Ending.returned (Value.int .i64 z)) (by rw [hR.out, hr.out]; rfl), rfl⟩
        · by_cases ho : (18446744073709551615 - ((((t[k]'hlt).toNat : Nat) : Int) - 48)) / 10 < a
          · have hr : Hid (_ = _) := hA.over hlt (by omega) (by omega) ho
            go_wp2
            go_ret
            exact ⟨congrArg (fun z => Ending.returned (Value.int .i64 z)) (by rw [hR.out, hr.out]; rfl), rfl⟩
          · have hn := hA.next hlt (by omega) (by omega) (by omega)
            go_wp2
            go_round
            case rel => exact ⟨k + 1, _, by omega, by go_num, rfl, by omega, by omega, hn⟩
            case measure => simp [intOf]; omega
    · obtain ⟨acc, hx⟩ : ∃ acc : Nat, Hid (a = acc ∧ Lib.parseUint10 0 t.data.toList = .ok acc) := hA.done (by omega)
      have hge : (t.size : Int) ≤ (k : Int) := by omega
      by_cases hb : 9223372036854775808 ≤ a
      · go_wp2
        go_ret
        exact ⟨congrArg (fun z => Ending.returned (Value.int .i64 z)) (by rw [hR.out, hx.out.2, signed_big (by have := hx.out.1; omega)]), rfl⟩
      · go_wp2
        go_ret
        exact ⟨congrArg (fun z => Ending.returned (Value.int .i64 z)) (by rw [hR.out, hx.out.2, signed_small hx.out.1 (by have := hx.out.1; omega)]), rfl⟩

set_option maxHeartbeats 800000 in
set_option maxRecDepth 100000 in
theorem num_minus (s : ByteArray) (w : World) (hm : s.size ≤ 1048576) (hz : 0 < s.size) (hs1 : 1 < s.size) (h4 : ((s[0]'hz).toNat : Int) = 45) :
    Calls Ybad.prog 4 #[.string s] w fun e w' => e = .returned (.int .i64 (signed true (Lib.parseUint10 0 (s.extract 1 s.size).data.toList))) ∧ w' = w := by
  have hz' : (0 : Int) < (s.size : Int) := by omega
  have b43 : (((s[0]'hz).toNat : Int) == 43) = false := by rw [h4]; rfl
  have b45 : (((s[0]'hz).toNat : Int) == 45) = true := by simpa using h4
  have hs1' : (1 : Int) ≤ (s.size : Int) := by omega
  have hsne : (((s.size - 1 : Nat) : Int) == 0) = false := by simp; omega
  obtain ⟨R, hR⟩ : ∃ R, Hid (R = signed true (Lib.parseUint10 0 (s.extract 1 s.size).data.toList)) := ⟨_, rfl⟩
  rw [← hR.out]
  go_enter Ybad.func4, Ybad.ntmps4
  go_wp2
  have htm : (s.extract 1 s.size).size ≤ 1048576 := by simp; omega
  generalize s.extract 1 s.size = t at htm hR ⊢
  go_loop [4, 5] (fun u i => ∃ (k : Nat) (a : Int), k ≤ t.size ∧ i = .int .i64 k ∧ u = .int .u64 a ∧ 0 ≤ a ∧ a ≤ 18446744073709551615 ∧ At t.data.toList k a) (fun _ i => t.size - (intOf i).toNat)
  case atStart => exact ⟨0, 0, Nat.zero_le _, rfl, rfl, by omega, by omega, 0, rfl, by omega, rfl⟩
  case round =>
    obtain ⟨k, a, hk, rfl, rfl, ha0, ha1, hA⟩ := hrel
    by_cases hlt : k < t.size
    · have hl : (k : Int) < (t.size : Int) := by omega
      have hc0 : 0 ≤ (((t[k]'hlt).toNat : Nat) : Int) := by omega
      by_cases hc1 : (((t[k]'hlt).toNat : Nat) : Int) < 48
      · have hr : Hid (_ = _) := hA.bad hlt (.inl hc1)
        go_wp2
        go_ret
        exact ⟨congrArg (fun z => Ending.returned (Value.int .i64 z)) (by rw [hR.out, hr.out]; rfl), rfl⟩
      · by_cases hc2 : 57 < (((t[k]'hlt).toNat : Nat) : Int)
        · have hr : Hid (_ = _) := hA.bad hlt (.inr hc2)
          go_wp2
          go_ret
          exact ⟨congrArg (fun z => Ending.returned (Value.int .i64 z)) (by rw [hR.out, hr.out]; rfl), rfl⟩
        · by_cases ho : (18446744073709551615 - ((((t[k]'hlt).toNat : Nat) : Int) - 48)) / 10 < a
          · have hr : Hid (_ = _) := hA.over hlt (by omega) (by omega) ho
            go_wp2
            go_ret
            exact ⟨congrArg (fun z => Ending.returned (Value.int .i64 z)) (by rw [hR.out, hr.out]; rfl), rfl⟩
          · have hn := hA.next hlt (by omega) (by omega) (by omega)
            go_wp2
            go_round
            case rel => exact ⟨k + 1, _, by omega, by go_num, rfl, by omega, by omega, hn⟩
            case measure => simp [intOf]; omega
    · obtain ⟨acc, hx⟩ : ∃ acc : Nat, Hid (a = acc ∧ Lib.parseUint10 0 t.data.toList = .ok acc) := hA.done (by omega)
      have hge : (t.size : Int) ≤ (k : Int) := by omega
      by_cases hb : 9223372036854775808 < a
      · go_wp2
        go_ret
        exact ⟨congrArg (fun z => Ending.returned (Value.int .i64 z)) (by rw [hR.out, hx.out.2, signed_least (by have := hx.out.1; omega)]), rfl⟩
      · by_cases hb2 : a = 9223372036854775808
        · subst hb2
          go_wp2
          go_ret
          exact ⟨congrArg (fun z => Ending.returned (Value.int .i64 z)) (by rw [hR.out, hx.out.2, signed_edge (by have := hx.out.1; omega)]; decide +kernel), rfl⟩
        · have hb4 : a ≤ 9223372036854775807 := by omega
          go_wp2
          go_ret
          exact ⟨congrArg (fun z => Ending.returned (Value.int .i64 z)) (by rw [hR.out, hx.out.2, signed_neg hx.out.1 (by have := hx.out.1; omega)]), rfl⟩

theorem numOf_mag (c : UInt8) (r : List UInt8) (neg : Bool) (hneg : neg = decide (c.toNat = 45)) (m : List UInt8) (hm : m = if c.toNat = 43 ∨ c.toNat = 45 then r else c :: r) (hne : m ≠ []) :
    numOf (c :: r) = signed neg (Lib.parseUint10 0 m) := by
  unfold numOf Lib.atoiAll Lib.atoiSat
  simp only [← hm]
  unfold Lib.parseMag
  rw [if_neg hne]
  cases Lib.parseUint10 0 m with
  | «syntax» => rfl
  | range => by_cases h : c.toNat = 45 <;> simp [signed, hneg, h]
  | ok u =>
    by_cases h : c.toNat = 45
    · by_cases hu : 9223372036854775808 < u <;> simp [signed, hneg, h, hu]
    · by_cases hu : 9223372036854775808 ≤ u <;> simp [signed, hneg, h, hu]

theorem numOf_only (c : UInt8) (hc : c.toNat = 43 ∨ c.toNat = 45) : numOf [c] = 0 := by
  unfold numOf Lib.atoiAll
  simp [hc, Lib.parseMag]

theorem list_cons (s : ByteArray) (hz : 0 < s.size) : s.data.toList = s[0] :: (s.extract 1 s.size).data.toList := by
  have h := drop_at s 0 hz
  rw [List.drop_zero] at h
  rw [h]
  congr 1
  simp [ByteArray.extract, ByteArray.copySlice]
  exact (List.take_of_length_le (by rw [List.length_tail, Array.length_toList]; exact Nat.le_refl _)).symm

theorem num_any (s : ByteArray) (w : World) (hm : s.size ≤ 1048576) : Calls Ybad.prog 4 #[.string s] w fun e w' => e = .returned (.int .i64 (numOf s.data.toList)) ∧ w' = w := by
  by_cases hz : 0 < s.size
  · rw [list_cons s hz]
    by_cases hc : ((s[0]'hz).toNat : Int) = 43 ∨ ((s[0]'hz).toNat : Int) = 45
    · by_cases h1 : s.size = 1
      · have he : (s.extract 1 s.size).data.toList = [] := List.eq_nil_of_length_eq_zero (by have : (s.extract 1 s.size).size = 0 := by simp; omega
                                                                                             simpa using this)
        rw [he, numOf_only _ (by omega)]
        exact num_sign_only w s hz h1 hc
      · have hne : (s.extract 1 s.size).data.toList ≠ [] := fun e => by
          have h2 : (s.extract 1 s.size).size = 0 := by
            have := congrArg List.length e
            simpa using this
          simp at h2; omega
        rcases hc with h43 | h45
        · rw [numOf_mag _ _ false (by simp; omega) _ (by rw [if_pos (by omega)]) hne]
          exact num_plus s w hm hz (by omega) h43
        · rw [numOf_mag _ _ true (by simp; omega) _ (by rw [if_pos (by omega)]) hne]
          exact num_minus s w hm hz (by omega) h45
    · rw [numOf_mag _ _ false (by simp; omega) _ (by rw [if_neg (by omega)]) (by simp), ← list_cons s hz]
      exact num_plain s w hm hz (by omega) (by omega)
  · have he : s.data.toList = [] := List.eq_nil_of_length_eq_zero (by have : s.size = 0 := by omega
                                                                      simpa using this)
    rw [he]
    exact num_empty w s (by omega)

end Go.Proofs.YbulkdyxwDoor
