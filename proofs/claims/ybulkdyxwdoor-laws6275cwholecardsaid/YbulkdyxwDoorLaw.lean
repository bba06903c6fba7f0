/-
  THE WALK of 'LawS6275CWhole'.
-/
import Derived.Test.YbulkdyxwDoorAtoi
namespace Go.Proofs.YbulkdyxwDoor
open Go.RowKit

theorem u64_mod (b n : Int) : (b + IntKind.u64.wrap n) % 256 = (b + n) % 256 := by
  have e : IntKind.u64.wrap n = n % 18446744073709551616 := by simp [IntKind.wrap, IntKind.signed, IntKind.bits]
  rw [e]; omega

set_option maxHeartbeats 400000 in
theorem law_out (s : ByteArray) (w : World) (h : s.size = 0 ∨ 1048576 < s.size) :
    Calls Ybad.prog 3 #[.string s] w fun e w' => e = .returned (.bool true) ∧ Below w.heap.size w w' := by
  rcases h with h | h
  · have h0 : (s.size : Int) = 0 := by omega
    go_enter Ybad.func3, Ybad.ntmps3
    go_wp2
    go_ret
    exact ⟨rfl, Below.refl _ _⟩
  · have h0 : (1048576 : Int) < (s.size : Int) := by omega
    go_enter Ybad.func3, Ybad.ntmps3
    go_wp2
    go_ret
    exact ⟨rfl, Below.refl _ _⟩

set_option maxHeartbeats 800000 in
set_option maxRecDepth 100000 in
theorem law_C (s : ByteArray) (hz : 0 < s.size) (hm : s.size ≤ 1048576) (hC : ((s[0]'hz).toNat : Int) = 67) (ev0 ev1 : Value) (w : World) (hv0 : w.cell? ⟨1, 0, none⟩ = some ev0) (he0 : ev0 = .nilIface ∨ ∃ te pe, ev0 = .iface te pe)
    (hv1 : w.cell? ⟨2, 0, none⟩ = some ev1) (he1 : ev1 = .nilIface ∨ ∃ te pe, ev1 = .iface te pe) :
    Calls Ybad.prog 3 #[.string s] w fun e w' => e = .returned (.bool true) ∧ Below w.heap.size w w' := by
  have hz' : (0 : Int) < (s.size : Int) := by omega
  have hz1 : (1 : Int) ≤ (s.size : Int) := by omega
  have hm' : (s.size : Int) ≤ 1048576 := by omega
  have bC : (((s[0]'hz).toNat : Int) == 67) = true := by simpa using hC
  obtain ⟨n, hn⟩ : ∃ n, Hid (n = numOf (s.extract 1 s.size).data.toList) := ⟨_, rfl⟩
  have hnum := num_any (s.extract 1 s.size) w (by simp; omega)
  rw [← hn.out] at hnum
  have hadr := address_C s hz hm hC ev0 ev1 w hv0 he0 hv1 he1 n hn
  have hb := numOf_bounds (s.extract 1 s.size).data.toList
  rw [← hn.out] at hb
  obtain ⟨v, hv⟩ : ∃ v, Hid (v = (192 + n) % 256) := ⟨_, rfl⟩
  rw [← hv.out] at hadr
  go_enter Ybad.func3, Ybad.ntmps3
  go_wp2_with (first
    | (go_at_call 4; refine hnum.mono ?_; rintro _ w1 ⟨rfl, hw1⟩; subst hw1)
    | (go_at_call 5; refine hadr.mono ?_; rintro _ w2 ⟨h, rfl, hh, bel, hcells⟩))
  have e : (192 + IntKind.u64.wrap n) % 256 = v := by rw [hv.out]; exact u64_mod 192 n
  rw [e]
  clear hnum hadr hn
  go_loop [7] (fun i => ∃ k : Nat, k ≤ 20 ∧ i = .int .i64 k) (fun i => 20 - (intOf i).toNat)
  case atStart => exact ⟨0, Nat.zero_le _, rfl⟩
  case round =>
    obtain ⟨k, hk, rfl⟩ := hrel
    by_cases hlt : k < 20
    · have hc := hcells k hlt
      have hl : (k : Int) < 20 := by omega
      go_wp2
      go_round
      case rel => exact ⟨k + 1, by omega, by go_num⟩
      case measure => simp [intOf]; omega
    · have hl : (20 : Int) ≤ (k : Int) := by omega
      go_wp2
      go_ret
      exact ⟨rfl, bel⟩

set_option maxHeartbeats 800000 in
set_option maxRecDepth 100000 in
theorem law_P (s : ByteArray) (hz : 0 < s.size) (hm : s.size ≤ 1048576) (hC : ((s[0]'hz).toNat : Int) ≠ 67) (ev0 ev1 : Value) (w : World) (hv0 : w.cell? ⟨1, 0, none⟩ = some ev0) (he0 : ev0 = .nilIface ∨ ∃ te pe, ev0 = .iface te pe)
    (hv1 : w.cell? ⟨2, 0, none⟩ = some ev1) (he1 : ev1 = .nilIface ∨ ∃ te pe, ev1 = .iface te pe) :
    Calls Ybad.prog 3 #[.string s] w fun e w' => e = .returned (.bool true) ∧ Below w.heap.size w w' := by
  have hz' : (0 : Int) < (s.size : Int) := by omega
  have hz1 : (1 : Int) ≤ (s.size : Int) := by omega
  have hm' : (s.size : Int) ≤ 1048576 := by omega
  have bC : (((s[0]'hz).toNat : Int) == 67) = false := by simpa using hC
  obtain ⟨n, hn⟩ : ∃ n, Hid (n = numOf (s.extract 1 s.size).data.toList) := ⟨_, rfl⟩
  have hnum := num_any (s.extract 1 s.size) w (by simp; omega)
  rw [← hn.out] at hnum
  have hadr := address_P s hz hm hC ev0 ev1 w hv0 he0 hv1 he1 n hn
  have hb := numOf_bounds (s.extract 1 s.size).data.toList
  rw [← hn.out] at hb
  obtain ⟨v, hv⟩ : ∃ v, Hid (v = (16 + n) % 256) := ⟨_, rfl⟩
  rw [← hv.out] at hadr
  go_enter Ybad.func3, Ybad.ntmps3
  go_wp2_with (first
    | (go_at_call 4; refine hnum.mono ?_; rintro _ w1 ⟨rfl, hw1⟩; subst hw1)
    | (go_at_call 5; refine hadr.mono ?_; rintro _ w2 ⟨h, rfl, hh, bel, hcells⟩))
  have e : (16 + IntKind.u64.wrap n) % 256 = v := by rw [hv.out]; exact u64_mod 16 n
  rw [e]
  clear hnum hadr hn
  go_loop [7] (fun i => ∃ k : Nat, k ≤ 20 ∧ i = .int .i64 k) (fun i => 20 - (intOf i).toNat)
  case atStart => exact ⟨0, Nat.zero_le _, rfl⟩
  case round =>
    obtain ⟨k, hk, rfl⟩ := hrel
    by_cases hlt : k < 20
    · have hc := hcells k hlt
      have hl : (k : Int) < 20 := by omega
      go_wp2
      go_round
      case rel => exact ⟨k + 1, by omega, by go_num⟩
      case measure => simp [intOf]; omega
    · have hl : (20 : Int) ≤ (k : Int) := by omega
      go_wp2
      go_ret
      exact ⟨rfl, bel⟩

theorem law_any (s : ByteArray) (ev0 ev1 : Value) (w : World) (hv0 : w.cell? ⟨1, 0, none⟩ = some ev0) (he0 : ev0 = .nilIface ∨ ∃ te pe, ev0 = .iface te pe)
    (hv1 : w.cell? ⟨2, 0, none⟩ = some ev1) (he1 : ev1 = .nilIface ∨ ∃ te pe, ev1 = .iface te pe) :
    Calls Ybad.prog 3 #[.string s] w fun e w' => e = .returned (.bool true) ∧ Below w.heap.size w w' := by
  by_cases h : s.size = 0 ∨ 1048576 < s.size
  · exact law_out s w h
  · have hz : 0 < s.size := by omega
    by_cases hC : ((s[0]'hz).toNat : Int) = 67
    · exact law_C s hz (by omega) hC ev0 ev1 w hv0 he0 hv1 he1
    · exact law_P s hz (by omega) hC ev0 ev1 w hv0 he0 hv1 he1

end Go.Proofs.YbulkdyxwDoor
