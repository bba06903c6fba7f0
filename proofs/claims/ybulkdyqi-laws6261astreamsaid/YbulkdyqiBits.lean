/-
  PLAIN LAWS: a number V of L bits, its bits and its bytes.
-/
import Derived.Laws.BitsAllLaws
namespace Go.Proofs.Ybulkdyqi.Plain

def byt (V q : Nat) : Int := ((V / 256 ^ q % 256 : Nat) : Int)
def byts (V m : Nat) : List Int := (List.range m).map (byt V)
def bt (V i : Nat) : Int := ((V / 2 ^ i % 2 : Nat) : Int)
def bitl (V L : Nat) : List Int := (List.range L).map (bt V)

theorem byts_length (V m : Nat) : (byts V m).length = m := by simp [byts]
theorem bitl_length (V m : Nat) : (bitl V m).length = m := by simp [bitl]
theorem byts_succ (V m : Nat) : byts V (m + 1) = byts V m ++ [byt V m] := by simp [byts, List.range_succ]
theorem bitl_succ (V m : Nat) : bitl V (m + 1) = bitl V m ++ [bt V m] := by simp [bitl, List.range_succ]
theorem byts_add (V m k : Nat) : byts V (m + k) = byts V m ++ byts (V / 256 ^ m) k := by
  induction k with
  | zero => simp [byts]
  | succ k ih =>
    rw [← Nat.add_assoc, byts_succ, ih, byts_succ, List.append_assoc]
    congr 2
    simp [byt, Nat.pow_add, Nat.div_div_eq_div_mul]

theorem pow256 (q : Nat) : 256 ^ q = 2 ^ (8 * q) := by rw [show (256 : Nat) = 2 ^ 8 by decide, ← Nat.pow_mul]

theorem div_low (V v L i : Nat) (h : i ≤ L) : (V + v * 2 ^ L) / 2 ^ i = V / 2 ^ i + v * 2 ^ (L - i) := by
  have e : v * 2 ^ L = v * 2 ^ (L - i) * 2 ^ i := by rw [Nat.mul_assoc, ← Nat.pow_add]; congr 2; omega
  rw [e, Nat.add_mul_div_right _ _ (Nat.two_pow_pos i)]

theorem div_hi (V v L q : Nat) (h : 8 * q ≤ L) : (V + v * 2 ^ L) / 256 ^ q = V / 256 ^ q + v * 2 ^ (L - 8 * q) := by
  rw [pow256]; exact div_low V v L (8 * q) h

theorem byt_low (V v L q : Nat) (h : 8 * q + 8 ≤ L) : byt (V + v * 2 ^ L) q = byt V q := by
  unfold byt
  rw [div_hi V v L q (by omega)]
  have e : v * 2 ^ (L - 8 * q) = v * 2 ^ (L - 8 * q - 8) * 256 := by
    rw [show (256 : Nat) = 2 ^ 8 by decide, Nat.mul_assoc, ← Nat.pow_add]; congr 2; omega
  rw [e, Nat.add_mul_mod_self_right]

theorem byts_low (V v L m : Nat) (h : 8 * m ≤ L) : byts (V + v * 2 ^ L) m = byts V m := by
  unfold byts
  apply List.map_congr_left
  intro q hq
  have : q < m := List.mem_range.1 hq
  exact byt_low V v L q (by omega)

theorem bt_low (V v L i : Nat) (h : i < L) : bt (V + v * 2 ^ L) i = bt V i := by
  unfold bt
  rw [div_low V v L i (by omega)]
  have e : v * 2 ^ (L - i) = v * 2 ^ (L - i - 1) * 2 := by
    rw [Nat.mul_assoc, ← Nat.pow_succ]; congr 2; omega
  rw [e, Nat.add_mul_mod_self_right]

theorem bitl_low (V v L : Nat) : bitl (V + v * 2 ^ L) L = bitl V L := by
  unfold bitl
  apply List.map_congr_left
  intro q hq
  exact bt_low V v L q (List.mem_range.1 hq)

theorem bt_hi (V v L j : Nat) (h : V < 2 ^ L) : bt (V + v * 2 ^ L) (L + j) = bt v j := by
  unfold bt
  have e : (V + v * 2 ^ L) / 2 ^ (L + j) = v / 2 ^ j := by
    rw [Nat.pow_add, ← Nat.div_div_eq_div_mul, Nat.add_mul_div_right _ _ (Nat.two_pow_pos L), Nat.div_eq_of_lt h, Nat.zero_add]
  rw [e]

theorem lt_next (V v L k : Nat) (hV : V < 2 ^ L) (hv : v < 2 ^ k) : V + v * 2 ^ L < 2 ^ (L + k) := by
  have h1 : (v + 1) * 2 ^ L ≤ 2 ^ k * 2 ^ L := Nat.mul_le_mul_right _ hv
  rw [Nat.add_mul, Nat.one_mul] at h1
  rw [Nat.pow_add, Nat.mul_comm (2 ^ L)]
  omega

theorem div_lt (V L q : Nat) (hV : V < 2 ^ L) (h : 8 * q ≤ L) : V / 256 ^ q < 2 ^ (L - 8 * q) := by
  rw [pow256, Nat.div_lt_iff_lt_mul (Nat.two_pow_pos _), ← Nat.pow_add, show L - 8 * q + 8 * q = L by omega]
  exact hV

theorem div_step (V q : Nat) : V / 256 ^ (q + 1) = V / 256 ^ q / 256 := by
  rw [Nat.pow_succ, Nat.div_div_eq_div_mul]

/-- The byte under way: its low j bits. -/
def part (V i j : Nat) : Nat := V / 2 ^ i % 2 ^ j
theorem part_zero (V i : Nat) : part V i 0 = 0 := by simp [part, Nat.mod_one]
theorem part_succ (V i j : Nat) : part V i (j + 1) = part V i j + 2 ^ j * (V / 2 ^ (i + j) % 2) := by
  unfold part
  rw [Nat.mod_pow_succ, Nat.pow_add, Nat.div_div_eq_div_mul]
theorem part_lt (V i j : Nat) : part V i j < 2 ^ j := Nat.mod_lt _ (Nat.two_pow_pos j)
theorem part_full (V L q j : Nat) (hV : V < 2 ^ L) (hq : 8 * q ≤ L) (hj : j = 8 ∨ (j ≤ 8 ∧ L ≤ 8 * q + j)) : ((part V (8 * q) j : Nat) : Int) = byt V q := by
  unfold part byt
  rw [pow256]
  rcases hj with rfl | ⟨h8, hL⟩
  · rfl
  · have h1 : V / 2 ^ (8 * q) < 2 ^ j := by
      have := div_lt V L q hV hq
      rw [pow256] at this
      exact Nat.lt_of_lt_of_le this (Nat.pow_le_pow_right (by decide) (by omega))
    have h2 : 2 ^ j ≤ 256 := by
      have := Nat.pow_le_pow_right (n := 2) (by decide) h8
      simpa using this
    rw [Nat.mod_eq_of_lt h1, Nat.mod_eq_of_lt (by omega)]

theorem or_add (a b j : Nat) (ha : a < 2 ^ j) : a ||| (2 ^ j * b) = a + 2 ^ j * b := by
  rw [Nat.or_comm, ← Nat.two_pow_add_eq_or_of_lt ha]
  omega

end Go.Proofs.Ybulkdyqi.Plain
