/-
  strconv.Atoi AT THIS SEAT's DUMP, by the shelf's contracts; the walk of 'address'.
-/
import Derived.Test.YbulkdyxwDoorNum
import Derived.Test.YbulkdyxwDoorRep
import Derived.Shelf.Strconv.AtoiAll
import Derived.Shelf.Lay
import Derived.Lib.AtoiErrMem
import Derived.Ground.NamesProg
import Derived.BigCall
namespace Go.Proofs.YbulkdyxwDoor
open Go.Shelf Go.RowKit

shelf_lay LaysC.n172 Nm 172 at Ybad as Ybad.laysAtoi

/-- strconv.Atoi, at every string: the number, and some error value. -/
theorem atoi (s : ByteArray) (hlim : s.size ≤ 281474976710656) (ev0 ev1 : Value) (w : World) (hv0 : w.cell? ⟨1, 0, none⟩ = some ev0) (he0 : ev0 = .nilIface ∨ ∃ te pe, ev0 = .iface te pe)
    (hv1 : w.cell? ⟨2, 0, none⟩ = some ev1) (he1 : ev1 = .nilIface ∨ ∃ te pe, ev1 = .iface te pe) :
    Calls Ybad.prog 6 #[.string s] w fun e w' => ∃ er, e = .returned (.tuple #[.int .i64 (numOf s.data.toList), er]) ∧ Below w.heap.size w w' := by
  unfold numOf
  cases h : Lib.atoiAll s.data.toList with
  | ok v =>
    have c : Calls Ybad.prog 6 #[.string s] w fun e w' => e = .returned (.tuple #[.int .i64 v, .nilIface]) ∧ (w' = w ∨ ∃ t, w' = Lib.bytesWorld w 5 t) := Any.strconv_Atoi_ok Ybad.laysAtoi s (by omega) v h w
    refine c.mono ?_
    rintro e w' ⟨rfl, hw⟩
    refine ⟨_, rfl, ?_⟩
    rcases hw with rfl | ⟨t, rfl⟩
    · exact Below.refl _ _
    · exact Lib.bytesWorld_below _ _ _
  | «syntax» =>
    have c : Calls Ybad.prog 6 #[.string s] w fun e w' => ∃ N, e = .returned (.tuple #[.int .i64 (0), .iface 40 (.pointer (some ⟨N, 0, none⟩))]) ∧ w.heap.size ≤ N ∧ w'.heap[N]? = some (.cells #[.string ⟨#[65, 116, 111, 105]⟩, .string s, ev0] 52 (0, 0)) ∧ RowKit.Below w.heap.size w w' :=
      Any.strconv_Atoi_syntax Ybad.laysAtoi s hlim h ev0 w hv0 he0
    refine c.mono ?_
    rintro e w' ⟨N, rfl, -, -, hb⟩
    exact ⟨_, rfl, hb⟩
  | range =>
    have c : Calls Ybad.prog 6 #[.string s] w fun e w' => ∃ N, e = .returned (.tuple #[.int .i64 (Lib.atoiSat s.data.toList), .iface 40 (.pointer (some ⟨N, 0, none⟩))]) ∧ w.heap.size ≤ N ∧ w'.heap[N]? = some (.cells #[.string ⟨#[65, 116, 111, 105]⟩, .string s, ev1] 52 (0, 0)) ∧ RowKit.Below w.heap.size w w' :=
      Any.strconv_Atoi_range Ybad.laysAtoi s hlim h ev1 w hv1 he1
    refine c.mono ?_
    rintro e w' ⟨N, rfl, -, -, hb⟩
    exact ⟨_, rfl, hb⟩

theorem numOf_bounds (l : List UInt8) : -9223372036854775808 ≤ numOf l ∧ numOf l ≤ 9223372036854775807 := by
  unfold numOf
  cases h : Lib.atoiAll l with
  | ok v => exact Lib.atoiAll_bounds h
  | «syntax» => simp
  | range =>
    simp only [Lib.atoiSat]
    split <;> simp

theorem wrap_mod (x : Int) : wrap64 x % 256 = x % 256 := by
  unfold wrap64
  omega

theorem is_byte (v : Int) : ∃ x : UInt8, ((x.toNat : Nat) : Int) = v % 256 := by
  refine ⟨UInt8.ofNat (v % 256).toNat, ?_⟩
  rw [UInt8.toNat_ofNat']
  omega

set_option maxHeartbeats 800000 in
set_option maxRecDepth 100000 in
theorem address_C (s : ByteArray) (hz : 0 < s.size) (hm : s.size ≤ 1048576) (hC : ((s[0]'hz).toNat : Int) = 67) (ev0 ev1 : Value) (w : World) (hv0 : w.cell? ⟨1, 0, none⟩ = some ev0) (he0 : ev0 = .nilIface ∨ ∃ te pe, ev0 = .iface te pe)
    (hv1 : w.cell? ⟨2, 0, none⟩ = some ev1) (he1 : ev1 = .nilIface ∨ ∃ te pe, ev1 = .iface te pe) (n : Int) (hn : Hid (n = numOf (s.extract 1 s.size).data.toList)) :
    Calls Ybad.prog 5 #[.string s] w fun e w' => ∃ h, e = .returned (.slice (some ⟨h, 0, none⟩) 20 20) ∧ w.heap.size ≤ h ∧ Below w.heap.size w w' ∧ ∀ j, j < 20 → w'.cell? ⟨h, j, none⟩ = some (.int .u8 ((192 + n) % 256)) := by
  have hz' : (0 : Int) < (s.size : Int) := by omega
  have hz1 : (1 : Int) ≤ (s.size : Int) := by omega
  have bC : (((s[0]'hz).toNat : Int) == 67) = true := by simpa using hC
  have ha := atoi (s.extract 1 s.size) (by simp; omega) ev0 ev1 w hv0 he0 hv1 he1
  rw [← hn.out] at ha
  have hb := numOf_bounds (s.extract 1 s.size).data.toList
  rw [← hn.out] at hb
  obtain ⟨x, hx⟩ : ∃ x : UInt8, Hid (((x.toNat : Nat) : Int) = (192 + n) % 256) := is_byte _
  go_enter Ybad.func5, Ybad.ntmps5
  go_wp2_with (go_at_call 6; refine ha.mono ?_; rintro _ w1 ⟨er, rfl, bel⟩)
  refine (repeat20 w1.heap.size 0 1 x _ ?_).mono ?_
  · rw [World.cell?_alloc_at _ _ _ _ rfl, hx.out, wrap_mod]; rfl
  rintro e w2 ⟨h, rfl, hh, bel2, hcells⟩
  have hsz : w.heap.size ≤ h := by
    have h1 := bel.size
    have h2 : w1.heap.size ≤ (w1.alloc (.cells #[.int .u8 (wrap64 (192 + n) % 256)] 5)).heap.size := by simp
    omega
  have hbel : Below w.heap.size w w2 := (bel.alloc bel.size _).trans (bel2.mono (by have := bel.size; simp; omega))
  have hc' : ∀ j, j < 20 → w2.cell? ⟨h, j, none⟩ = some (.int .u8 ((192 + n) % 256)) := fun j hj => by rw [hcells j hj, hx.out]
  clear hh bel2 hcells bel
  go_wp2
  go_ret
  exact ⟨h, rfl, hsz, hbel, hc'⟩

set_option maxHeartbeats 800000 in
set_option maxRecDepth 100000 in
theorem address_P (s : ByteArray) (hz : 0 < s.size) (hm : s.size ≤ 1048576) (hC : ((s[0]'hz).toNat : Int) ≠ 67) (ev0 ev1 : Value) (w : World) (hv0 : w.cell? ⟨1, 0, none⟩ = some ev0) (he0 : ev0 = .nilIface ∨ ∃ te pe, ev0 = .iface te pe)
    (hv1 : w.cell? ⟨2, 0, none⟩ = some ev1) (he1 : ev1 = .nilIface ∨ ∃ te pe, ev1 = .iface te pe) (n : Int) (hn : Hid (n = numOf (s.extract 1 s.size).data.toList)) :
    Calls Ybad.prog 5 #[.string s] w fun e w' => ∃ h, e = .returned (.slice (some ⟨h, 0, none⟩) 20 20) ∧ w.heap.size ≤ h ∧ Below w.heap.size w w' ∧ ∀ j, j < 20 → w'.cell? ⟨h, j, none⟩ = some (.int .u8 ((16 + n) % 256)) := by
  have hz' : (0 : Int) < (s.size : Int) := by omega
  have hz1 : (1 : Int) ≤ (s.size : Int) := by omega
  have bC : (((s[0]'hz).toNat : Int) == 67) = false := by simpa using hC
  have ha := atoi (s.extract 1 s.size) (by simp; omega) ev0 ev1 w hv0 he0 hv1 he1
  rw [← hn.out] at ha
  have hb := numOf_bounds (s.extract 1 s.size).data.toList
  rw [← hn.out] at hb
  obtain ⟨x, hx⟩ : ∃ x : UInt8, Hid (((x.toNat : Nat) : Int) = (16 + n) % 256) := is_byte _
  go_enter Ybad.func5, Ybad.ntmps5
  go_wp2_with (go_at_call 6; refine ha.mono ?_; rintro _ w1 ⟨er, rfl, bel⟩)
  refine (repeat20 w1.heap.size 0 1 x _ ?_).mono ?_
  · rw [World.cell?_alloc_at _ _ _ _ rfl, hx.out, wrap_mod]; rfl
  rintro e w2 ⟨h, rfl, hh, bel2, hcells⟩
  have hsz : w.heap.size ≤ h := by
    have h1 := bel.size
    have h2 : w1.heap.size ≤ (w1.alloc (.cells #[.int .u8 (wrap64 (16 + n) % 256)] 5)).heap.size := by simp
    omega
  have hbel : Below w.heap.size w w2 := (bel.alloc bel.size _).trans (bel2.mono (by have := bel.size; simp; omega))
  have hc' : ∀ j, j < 20 → w2.cell? ⟨h, j, none⟩ = some (.int .u8 ((16 + n) % 256)) := fun j hj => by rw [hcells j hj, hx.out]
  clear hh bel2 hcells bel
  go_wp2
  go_ret
  exact ⟨h, rfl, hsz, hbel, hc'⟩

end Go.Proofs.YbulkdyxwDoor
