/-
  THE WALK of 'LawS6261AStream'.
-/
import Derived.Test.YbulkdyqiState
namespace Go.Proofs.Ybulkdyqi
open Go.RowKit Plain

theorem wr_new0 (w : World) (v : Value) : Wr (w.alloc (.cells #[v, .int .u64 0, .int .u64 0] 28)) w.heap.size v 0 0 := heap_alloc_new w _

theorem st_start {w w1 w2 : World} {v : Value} {ao : Option Addr} {cap nb : Nat} {pre : List Int} (hv : v = .slice ao pre.length cap) (hown : w1.ownsRow w.heap.size 5 1 (.slice ao pre.length cap) pre.length (u8s pre)) (hb : Below w.heap.size w w1)
    (h2 : w2.ownsRow w.heap.size 5 1 (.slice (some ⟨w1.heap.size + 1, 0, none⟩) 0 nb) 0 []) (hg : (w1.alloc (.cells #[v, .int .u64 0, .int .u64 0] 28)).grownBy w2 none) :
    St w.heap.size w1.heap.size (w1.heap.size + 1) nb w pre 0 0 ao cap [] w2 := by
  subst hv
  have hs := hb.size
  refine ⟨?_, ?_, h2, ?_, (hb.alloc hs _).grown hg (by simp; omega) (fun k h => by cases h)⟩
  · have := wr_new0 w1 (.slice ao pre.length cap)
    unfold Wr at this ⊢
    rw [hg.block w1.heap.size (by simp) (by simp)]
    simpa using this
  · refine ownsRow_of_heap (w := w1) ?_ fun g hg' => ?_
    · simpa [byts] using hown
    · have := (hown.lt g (by simpa using hg')).2
      rw [hg.block g (by simp; omega) (by simp), Below.heap_alloc _ _ _ this]
  · intro e
    have := (hown.lt (w1.heap.size + 1) (by simpa using e)).2
    omega

theorem mask_eq (a k : Nat) (ha : a < 18446744073709551616) (hk : k ≤ 32) : bits BinOp.and IntKind.u64 (a : Int) (IntKind.u64.wrap (IntKind.u64.wrap (2 ^ k) - 1)) = ((a % 2 ^ k : Nat) : Int) := by
  have h1 : 1 ≤ 2 ^ k := Nat.one_le_two_pow
  have h2 : 2 ^ k ≤ 2 ^ 32 := Nat.pow_le_pow_right (by decide) hk
  have e : IntKind.u64.wrap (IntKind.u64.wrap (2 ^ k) - 1) = ((2 ^ k - 1 : Nat) : Int) := by
    rw [IntKind.wrap_u64, IntKind.wrap_u64]
    have e0 : ((2 : Int) ^ k) = ((2 ^ k : Nat) : Int) := by simp
    rw [e0]
    omega
  rw [e, bits_and_u64_nat a (2 ^ k - 1) ha (by omega), Nat.and_two_pow_sub_one_eq_mod]

/-- Bit j of v, as the walk spells it. -/
theorem bit_eq (v j : Nat) (hv : v < 18446744073709551616) : bits BinOp.and IntKind.u64 ((v : Int) / 2 ^ j) 1 = bt v j := by
  have e : ((v : Int) / 2 ^ j) = ((v / 2 ^ j : Nat) : Int) := by simp
  have hlt : v / 2 ^ j < 18446744073709551616 := Nat.lt_of_le_of_lt (Nat.div_le_self _ _) hv
  rw [e]
  have h := bits_and_u64_nat (v / 2 ^ j) 1 hlt (by omega)
  rw [Nat.and_one_is_mod] at h
  exact h

theorem take_getD (l : List Int) (k : Nat) (h : k < l.length) : l.take (k + 1) = l.take k ++ [l.getD k 0] := by
  rw [List.take_succ_eq_append_getElem h]; simp [List.getD, h]

theorem ownsRow_drewN {w : World} {base : Nat} {e : TypeId} {size : Nat} {v : Value} {n : Nat} {xs : List Value} (h : w.ownsRow base e size v n xs) (k : Nat) : (w.drewN k).ownsRow base e size v n xs := h

theorem fin_st {base pb gb nb : Nat} {w0 : World} {pre : List Int} {V L : Nat} {ao : Option Addr} {cap : Nat} {acc : Int} {w3 wr : World} (F : Fi base pb gb nb w0 pre V L ao cap acc w3) (hb : Below w3.heap.size w3 wr) :
    Wr wr pb (.slice ao (pre.length + (L + 7) / 8) cap) acc ((L % 8 : Nat) : Int) ∧ wr.ownsRow base 5 1 (.slice ao (pre.length + (L + 7) / 8) cap) (pre.length + (L + 7) / 8) (u8s (pre ++ byts V ((L + 7) / 8))) ∧ Below base w0 wr := by
  have hpb := F.wr.lt
  have hg := (F.row.lt gb rfl)
  refine ⟨?_, ownsRow_of_heap F.own (fun g hg => hb.block g (F.own.lt g hg).2), F.below.trans (hb.mono (by omega))⟩
  have hW := F.wr
  unfold Wr at hW ⊢
  rw [hb.block pb hpb]
  exact hW

theorem or_part (V i j : Nat) (hj : j < 8) : bits BinOp.or IntKind.u8 ((Plain.part V i j : Nat) : Int) (((V / 2 ^ (i + j) % 2 : Nat) : Int) * 2 ^ j % 256) = ((Plain.part V i (j + 1) : Nat) : Int) := by
  have h1 : 2 ^ j * (V / 2 ^ (i + j) % 2) ≤ 2 ^ 7 * 1 := Nat.mul_le_mul (Nat.pow_le_pow_right (by decide) (by omega)) (by omega)
  have h2 : Plain.part V i j < 2 ^ j := part_lt V i j
  have h3 : 2 ^ j ≤ 2 ^ 7 := Nat.pow_le_pow_right (by decide) (by omega)
  have e : (((V / 2 ^ (i + j) % 2 : Nat) : Int) * 2 ^ j % 256) = ((2 ^ j * (V / 2 ^ (i + j) % 2) : Nat) : Int) := by
    have e0 : (((V / 2 ^ (i + j) % 2 : Nat) : Int) * 2 ^ j) = ((2 ^ j * (V / 2 ^ (i + j) % 2) : Nat) : Int) := by
      rw [Nat.mul_comm]; simp
    rw [e0]; omega
  rw [e, u8_or_nat _ _ (by omega) (by omega), part_succ, or_add _ _ j h2]

theorem bits_cell {base pb gb nb : Nat} {w0 : World} {pre : List Int} {V L : Nat} {ao : Option Addr} {cap : Nat} {acc : Int} {w3 wr : World} (F : Fi base pb gb nb w0 pre V L ao cap acc w3) (hb : Below w3.heap.size w3 wr) :
    ∀ i, i < L → wr.cell? ⟨gb, i, none⟩ = some (.int .u8 (bt V i)) := by
  intro i hi
  have hlt := (F.row.lt gb rfl).2
  rw [hb.cell (p := ⟨gb, i, none⟩) hlt, F.row.cellAt i (by omega), u8s_get _ _ (by rw [bitl_length]; exact hi)]
  simp [bitl, List.getD, hi]

set_option maxRecDepth 100000 in
set_option maxHeartbeats 2000000 in
theorem stream (pa oa : Option Addr) (pc oc : Nat) (pre : List Int) (ps : List (Nat × Nat)) (w : World) (hl : pre.length ≤ 1048576) (hnil : pa = none → pre = [] ∧ pc = 0) (ho : ps.length ≤ 4096)
    (hc : ∀ j, j < pre.length → ∃ x, pa = some x ∧ w.cell? (x.add j) = some (.int .u8 (pre.getD j 0)))
    (hd : ∀ j, j < ps.length → ∃ y, oa = some y ∧ w.cell? (y.add (j * 2)) = some (.int .u64 (ps.getD j (0, 0)).1) ∧ w.cell? ⟨(y.add (j * 2)).block, (y.add (j * 2)).off + 1, none⟩ = some (.int .u8 (ps.getD j (0, 0)).2) ∧ (ps.getD j (0, 0)).1 < 18446744073709551616 ∧ (ps.getD j (0, 0)).2 < 256) :
    Calls Yba.prog 4 #[.slice pa pre.length pc, .slice oa ps.length oc] w fun e w' => e = .returned (.bool true) ∧ Below w.heap.size w w' := by
  obtain ⟨i0, hi, hz0, hz1, hz2⟩ := info_parts Yba.info5
  have hl' : (pre.length : Int) ≤ 1048576 := by omega
  have ho' : (ps.length : Int) ≤ 4096 := by omega
  go_enter Yba.func4, Yba.ntmps4
  go_wp2_with (first
    | (go_at_call 5; refine (clone_any pa pc pre _ hl hnil hc).mono ?_; rintro e w1 ⟨ao1, cap1, rfl, hown1, hb1⟩)
    | (at_make; refine wpList_make_own _ rfl _ _ 22 rfl w.heap.size 5 i0 (.int .u8 0) 1 Yba.underlying22 hi hz0 hz1 .i64 .i64 _ (ps.length * 32) rfl rfl (by omega) (by rw [hz2]; omega) (by unfold maxLen; omega) (by have := hb1.size; simp; omega) ?_; intro w2 hown2 hgrow2))
  have S0 := st_start rfl hown1 hb1 (by simpa using hown2) hgrow2
  have hbp : w.heap.size ≤ w1.heap.size := hb1.size
  clear hown1 hown2 hgrow2 hb1
  generalize w1.heap.size + 1 = gb at *
  generalize w1.heap.size = pb at *
  go_loopg [6, 7] ps.length (fun r bl i wr => ∃ k V L ao cap, k + r = ps.length ∧ i = .int .i64 (k : Nat) ∧ bl = .slice (some ⟨gb, 0, none⟩) L (ps.length * 32) ∧ V < 2 ^ L ∧ L ≤ 32 * k ∧ St w.heap.size pb gb (ps.length * 32) w pre V L ao cap (bitl V L) wr)
  case atStart => exact ⟨0, 0, 0, ao1, cap1, by omega, rfl, rfl, by decide, by omega, S0⟩
  case round =>
    obtain ⟨k, V, L, ao, cap, hk, rfl, rfl, hV, hL, S⟩ := hrel
    clear S0
    by_cases hlt : k < ps.length
    · obtain ⟨y, hy, hcv, hcn, bv, bn⟩ := hd k hlt
      obtain ⟨a, ea⟩ : ∃ a, Hid (a = (ps.getD k (0, 0)).1) := ⟨_, rfl⟩
      obtain ⟨n, en⟩ : ∃ n, Hid (n = (ps.getD k (0, 0)).2) := ⟨_, rfl⟩
      rw [← ea.out] at hcv bv
      rw [← en.out] at hcn bn
      rw [← S.below.cell (World.block_lt_of_cell? w _ hcv)] at hcv
      rw [← S.below.cell (World.block_lt_of_cell? w _ hcn)] at hcn
      subst hy
      obtain ⟨kk, ek⟩ : ∃ kk, Hid (kk = n % 33) := ⟨_, rfl⟩
      obtain ⟨v, ev⟩ : ∃ v, Hid (v = a % 2 ^ kk) := ⟨_, rfl⟩
      have hkk : kk ≤ 32 := by have := ek.out; omega
      have HK : (n : Int) % 33 = (kk : Int) := by have := ek.out; omega
      have HV : bits BinOp.and IntKind.u64 (a : Int) (IntKind.u64.wrap (IntKind.u64.wrap (2 ^ kk) - 1)) = (v : Int) := by rw [mask_eq a kk bv hkk, ev.out]
      have hvk : Hid (v < 2 ^ kk) := by have := Nat.mod_lt a (Nat.two_pow_pos kk); rw [← ev.out] at this; exact this
      have hv64 : Hid (v < 18446744073709551616) := by have := Nat.mod_le a (2 ^ kk); have := ev.out; show v < _; omega
      go_wp2_with (go_at_call 8; refine (add_st v kk S hbp hV hvk.out hkk hl (by omega)).mono ?_; rintro e w3 ⟨rfl, ao3, cap3, S3⟩)
      obtain ⟨V1, eV1⟩ : ∃ V1, Hid (V1 = V + v * 2 ^ L) := ⟨_, rfl⟩
      have hV1 : Hid (V1 < 2 ^ (L + kk)) := by have := lt_next V v L kk hV hvk.out; rw [← eV1.out] at this; exact this
      have hbl : Hid (bitl V1 L = bitl V L) := by show _ = _; rw [eV1.out]; exact bitl_low V v L
      have hbt : Hid (∀ j, bt V1 (L + j) = bt v j) := fun j => by rw [eV1.out]; exact bt_hi V v L j hV
      rw [← eV1.out, ← hbl.out] at S3
      clear hcv hcn HV S hbl eV1 ea en ev hV
      go_loopg [6, 10] kk (fun r bl j wi => ∃ jn : Nat, jn + r = kk ∧ j = .int .u64 jn ∧ bl = .slice (some ⟨gb, 0, none⟩) (L + jn) (ps.length * 32) ∧ St w.heap.size pb gb (ps.length * 32) w pre V1 (L + kk) ao3 cap3 (bitl V1 (L + jn)) wi)
      case atStart => exact ⟨0, by omega, rfl, rfl, S3⟩
      case round =>
        obtain ⟨jn, hjn, rfl, rfl, Si⟩ := hrel
        clear S3
        by_cases hj : jn < kk
        · obtain ⟨bb, hbb⟩ : ∃ bb : Nat, Hid ((bb : Int) = bt v jn) := ⟨v / 2 ^ jn % 2, rfl⟩
          have hb1 : bb ≤ 1 := by have h : (bb : Int) = ((v / 2 ^ jn % 2 : Nat) : Int) := hbb.out; omega
          have HB : bits BinOp.and IntKind.u64 ((v : Int) / 2 ^ jn) 1 = (bb : Int) := by rw [bit_eq v jn hv64.out, hbb.out]
          have hrow := Si.row
          rw [bitl_length] at hrow
          go_wp2_with (at_builtin; refine wpList_append_fits _ rfl (.tmp 64) (.tmp 70) 22 rfl w.heap.size 5 i0 1 Yba.underlying22 hi hz1 gb (L + jn) (ps.length * 32) (u8s (bitl V1 (L + jn))) rfl (hrow.alloc _) ⟨wr.heap.size, 0, none⟩ 1 1 [.int .u8 (bb : Int)] rfl rfl (cell_one_new _ _ _) (by simp [Value.oneCell']) (by omega) ?_; intro w4 hown4 hgrow4)
          have Sn := Si.bit (by rw [bitl_length]; exact hown4) hgrow4
          rw [hbb.out, ← hbt.out jn, ← bitl_succ] at Sn
          clear hown4 hgrow4 hrow HB Si
          go_roundg (gk - 1)
          case measure => omega
          case rel => exact ⟨jn + 1, by omega, by go_num, rfl, Sn⟩
        · obtain rfl : jn = kk := by omega
          go_wp2_with fail
          go_roundg (ps.length - (k + 1))
          case measure => omega
          case rel => exact ⟨k + 1, V1, L + jn, ao3, cap3, by omega, by go_num, rfl, hV1.out, by omega, Si⟩
    · have hL2 : L ≤ 131072 := by omega
      have hL3 : (L : Int) ≤ 131072 := by omega
      clear hL
      go_wp2_with (first
        | (go_at_call 6; refine (pad_st S hbp hl (by omega)).mono ?_; rintro e w3 ⟨ao3, cap3, acc3, rfl, F3⟩)
        | (at_make; refine wpList_make_own _ rfl _ _ 22 rfl w3.heap.size 5 i0 (.int .u8 0) 1 Yba.underlying22 hi hz0 hz1 .i64 .i64 _ (pre.length + L / 8 + 1) rfl rfl (by omega) (by rw [hz2]; omega) (by unfold maxLen; omega) (Nat.le_refl _) ?_; intro w4 hown4 hgrow4))
      have E0 := ExpC.start hown4 hgrow4
      clear hown4 hgrow4 S
      obtain ⟨C, eC⟩ : ∃ C, Hid (C = pre.length + L / 8 + 1) := ⟨_, rfl⟩
      have hC : pre.length + L / 8 + 1 ≤ C := by have := eC.out; omega
      rw [← eC.out] at E0
      rw [← eC.out]
      go_loopg [12, 13] pre.length (fun r ex i wi => ∃ k : Nat, k + r = pre.length ∧ i = .int .i64 k ∧ ex = .slice (some ⟨w3.heap.size, 0, none⟩) k C ∧ ExpC w3 C (pre.take k) wi)
      case atStart => exact ⟨0, by omega, rfl, rfl, E0⟩
      case round =>
        obtain ⟨k3, hk3, rfl, rfl, E3⟩ := hrel
        clear E0
        have htl : Hid ((pre.take k3).length = k3) := by show _ = _; rw [List.length_take]; omega
        have hE := E3.1
        rw [htl.out] at hE
        by_cases hlt3 : k3 < pre.length
        · obtain ⟨x, hx, hcx⟩ := hc k3 hlt3
          obtain ⟨bk, hbk⟩ : ∃ b, Hid (b = pre.getD k3 0) := ⟨_, rfl⟩
          rw [← hbk.out] at hcx
          have hxb := World.block_lt_of_cell? w _ hcx
          rw [← F3.below.cell hxb, ← E3.2.cell (by have := F3.below.size; omega)] at hcx
          subst hx
          go_wp2_with (at_builtin; refine wpList_append_fits _ rfl (.tmp 88) (.tmp 93) 22 rfl w3.heap.size 5 i0 1 Yba.underlying22 hi hz1 w3.heap.size k3 C (u8s (pre.take k3)) rfl (hE.alloc _) ⟨wr.heap.size, 0, none⟩ 1 1 [.int .u8 bk] rfl rfl (cell_one_new _ _ _) (by simp [Value.oneCell']) (by omega) ?_; intro w5 hown5 hgrow5)
          have En := E3.next (by rw [htl.out]; exact hown5) hgrow5
          rw [hbk.out, ← take_getD pre k3 hlt3] at En
          clear hown5 hgrow5 hE E3
          go_roundg (gk - 1)
          case measure => omega
          case rel => exact ⟨k3 + 1, by omega, by go_num, rfl, En⟩
        · obtain rfl : k3 = pre.length := by omega
          rw [List.take_length] at E3
          clear hE htl
          go_wp2_with fail
          go_loopg [12, 14] ((L + 7) / 8) (fun r ex i wi => ∃ q : Nat, q + r = (L + 7) / 8 ∧ i = .int .i64 (8 * (q : Int)) ∧ ex = .slice (some ⟨w3.heap.size, 0, none⟩) (pre.length + q) C ∧ ExpC w3 C (pre ++ byts V q) wi)
          case atStart => exact ⟨0, by omega, rfl, rfl, by simpa [byts] using E3⟩
          case round =>
            obtain ⟨q, hq, rfl, rfl, E4⟩ := hrel
            clear E3
            have htl : Hid ((pre ++ byts V q).length = pre.length + q) := by show _ = _; simp [byts_length]
            have hE := E4.1
            rw [htl.out] at hE
            by_cases hlt4 : 8 * q < L
            · have hlt4' : 8 * (q : Int) < (L : Int) := by omega
              have hcell : Hid (∀ i, i < L → wr.cell? ⟨gb, i, none⟩ = some (.int .u8 (bt V i))) := bits_cell F3 E4.2
              go_wp2_with fail
              go_loop [15, 16] (fun b j => ∃ jn : Nat, jn ≤ 8 ∧ 8 * q + jn ≤ L ∧ j = .int .i64 jn ∧ b = .int .u8 (Plain.part V (8 * q) jn : Nat)) (fun _ j => 8 - (intOf j).toNat)
              case atStart => exact ⟨0, by omega, by omega, rfl, by rw [part_zero]; rfl⟩
              case round =>
                obtain ⟨jn, hj8, hjL, rfl, rfl⟩ := hrel
                obtain ⟨P, eP⟩ : ∃ P, Hid (P = Plain.part V (8 * q) jn) := ⟨_, rfl⟩
                rw [← eP.out]
                by_cases hgo : jn < 8 ∧ 8 * q + jn < L
                · obtain ⟨g1, g2⟩ := hgo
                  obtain ⟨bb, ebb⟩ : ∃ bb : Nat, Hid (bb = V / 2 ^ (8 * q + jn) % 2) := ⟨_, rfl⟩
                  have hcl : wr.cell? ⟨gb, 8 * q + jn, none⟩ = some (.int .u8 (bb : Int)) := by rw [hcell.out _ g2, ebb.out]; rfl
                  have g1' : (jn : Int) < 8 := by omega
                  have g2' : 8 * (q : Int) + (jn : Int) < (L : Int) := by omega
                  have HO := or_part V (8 * q) jn g1
                  rw [← eP.out, ← ebb.out] at HO
                  go_wp2
                  go_round
                  case rel => exact ⟨jn + 1, by omega, by omega, by go_num, rfl⟩
                  case measure => simp [intOf]; omega
                · have hfull : Hid ((P : Int) = byt V q) := by show _ = _; rw [eP.out]; exact part_full V L q jn hV (by omega) (by omega)
                  by_cases h8 : jn < 8
                  · have h8' : ¬ 8 * (q : Int) + (jn : Int) < (L : Int) := by omega
                    go_wp2_with (at_builtin; refine wpList_append_fits _ rfl (.tmp 124) (.tmp 126) 22 rfl w3.heap.size 5 i0 1 Yba.underlying22 hi hz1 w3.heap.size (pre.length + q) C (u8s (pre ++ byts V q)) rfl (hE.alloc _) ⟨wr.heap.size, 0, none⟩ 1 1 [.int .u8 (P : Int)] rfl rfl (cell_one_new _ _ _) (by simp [Value.oneCell']) (by omega) ?_; intro w5 hown5 hgrow5)
                    have En := E4.next (by rw [htl.out]; exact hown5) hgrow5
                    rw [hfull.out, List.append_assoc, ← byts_succ] at En
                    clear hown5 hgrow5 hE E4
                    go_roundg (gk - 1)
                    case measure => omega
                    case rel => exact ⟨q + 1, by omega, by go_num, rfl, En⟩
                  · have h8' : ¬ (jn : Int) < 8 := by omega
                    go_wp2_with (at_builtin; refine wpList_append_fits _ rfl (.tmp 124) (.tmp 126) 22 rfl w3.heap.size 5 i0 1 Yba.underlying22 hi hz1 w3.heap.size (pre.length + q) C (u8s (pre ++ byts V q)) rfl (hE.alloc _) ⟨wr.heap.size, 0, none⟩ 1 1 [.int .u8 (P : Int)] rfl rfl (cell_one_new _ _ _) (by simp [Value.oneCell']) (by omega) ?_; intro w5 hown5 hgrow5)
                    have En := E4.next (by rw [htl.out]; exact hown5) hgrow5
                    rw [hfull.out, List.append_assoc, ← byts_succ] at En
                    clear hown5 hgrow5 hE E4
                    go_roundg (gk - 1)
                    case measure => omega
                    case rel => exact ⟨q + 1, by omega, by go_num, rfl, En⟩
            · have eq7 : q = (L + 7) / 8 := by omega
              subst eq7
              obtain ⟨hW5, hgot5, hb5⟩ := fin_st F3 E4.2
              obtain ⟨c0, c1, c2, f0, f1, f2⟩ := hW5.cell
              clear E4
              go_wp2_with (first
                | (go_at_call 7; refine (eq_own htl.out (by unfold maxLen; omega) (ownsRow_drewN hgot5 _) (ownsRow_drewN hE _)).mono ?_; rintro e w6 ⟨rfl, q1, rfl⟩)
                | (go_at_call 7; refine (eq_own htl.out (by unfold maxLen; omega) hgot5 hE).mono ?_; rintro e w6 ⟨rfl, q1, rfl⟩))
              go_ret
              exact ⟨rfl, below_drewN hb5 _⟩

end Go.Proofs.Ybulkdyqi
