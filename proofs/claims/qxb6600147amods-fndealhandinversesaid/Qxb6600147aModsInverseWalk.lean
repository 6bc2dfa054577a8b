import Derived.Test.Qxb6600147aModsZzWalk
namespace Go.Proofs.Qxb6600147aMods
open Go.ChangeShapes Go.WideShapes Go.ChangeAt Go.RowKit

theorem left_eq (Q k : Nat) (hk : k < Q) : (Q : Int) - (k : Int) = ((Q - k : Nat) : Int) := by omega
theorem enc_eq (Q H k E V v l : Nat) (hv : v = Deal.rk Q H k + l) (hE : Deal.en Q H k = E) (hV : Deal.pr Q k % 18446744073709551616 = V) (hH : H < 18446744073709551616) :
    IntKind.u64.wrap ((E : Int) + IntKind.u64.wrap (((v : Int) - (l : Int)) * (V : Int))) = ((Deal.en Q H (k + 1) : Nat) : Int) := by
  have h1 := Deal.en_le Q H (k + 1)
  have e : Deal.en Q H (k + 1) = E + Deal.rk Q H k * Deal.pr Q k := by rw [← hE]; rfl
  rw [show (v : Int) - (l : Int) = ((Deal.rk Q H k : Nat) : Int) from by omega, IntKind.wrap_u64, IntKind.wrap_u64, ← Int.natCast_mul]
  have e2 : Deal.rk Q H k * V % 18446744073709551616 = Deal.rk Q H k * Deal.pr Q k % 18446744073709551616 := by rw [← hV, Nat.mul_mod, Nat.mod_mod, ← Nat.mul_mod]
  generalize Deal.rk Q H k * V = x at *
  generalize Deal.rk Q H k * Deal.pr Q k = y at *
  omega
theorem w_eq (Q k V : Nat) (hk : k < Q) (hV : Deal.pr Q k % 18446744073709551616 = V) :
    IntKind.u64.wrap ((V : Int) * ((Q : Int) - (k : Int))) = ((Deal.pr Q (k + 1) % 18446744073709551616 : Nat) : Int) := by
  have e : Deal.pr Q (k + 1) = Deal.pr Q k * (Q - k) := rfl
  rw [left_eq Q k hk, IntKind.wrap_u64, ← Int.natCast_mul, e, ← hV]
  have e2 : Deal.pr Q k % 18446744073709551616 * (Q - k) % 18446744073709551616 = Deal.pr Q k * (Q - k) % 18446744073709551616 := by rw [Nat.mul_mod, Nat.mod_mod, ← Nat.mul_mod]
  generalize Deal.pr Q k % 18446744073709551616 * (Q - k) = x at *
  generalize Deal.pr Q k * (Q - k) = y at *
  omega
theorem pr_over (Q k : Nat) (hk : k < Q) (h : 18446744073709551616 ≤ Deal.pr Q k) : 18446744073709551616 ≤ Deal.pr Q (k + 1) :=
  Nat.le_trans h (Nat.le_mul_of_pos_right _ (by omega))
theorem pr_new (Q k P : Nat) (hk : k < Q) (hP : P = Deal.pr Q k) (h : 18446744073709551615 / ((Q : Int) - (k : Int)) < (P : Int)) : 18446744073709551616 ≤ Deal.pr Q (k + 1) := by
  have e : Deal.pr Q (k + 1) = Deal.pr Q k * (Q - k) := rfl
  rw [left_eq Q k hk] at h
  have h' : 18446744073709551615 / (Q - k) < P := by
    have e2 : (18446744073709551615 : Int) / ((Q - k : Nat) : Int) = ((18446744073709551615 / (Q - k) : Nat) : Int) := (Int.natCast_ediv 18446744073709551615 (Q - k)).symm
    rw [e2] at h
    omega
  rw [e, ← hP]
  have := (Nat.div_lt_iff_lt_mul (show 0 < Q - k by omega)).1 h'
  omega
theorem p_lt (Q k P : Nat) (hk : k < Q) (h : (P : Int) ≤ 18446744073709551615 / ((Q : Int) - (k : Int))) : P * (Q - k) < 18446744073709551616 := by
  rw [left_eq Q k hk] at h
  have h' : P ≤ 18446744073709551615 / (Q - k) := by
    have e2 : (18446744073709551615 : Int) / ((Q - k : Nat) : Int) = ((18446744073709551615 / (Q - k) : Nat) : Int) := (Int.natCast_ediv 18446744073709551615 (Q - k)).symm
    rw [e2] at h
    omega
  have := (Nat.le_div_iff_mul_le (show 0 < Q - k by omega)).1 h'
  omega
theorem p_eq (Q k P : Nat) (hk : k < Q) (h : (P : Int) ≤ 18446744073709551615 / ((Q : Int) - (k : Int))) : IntKind.u64.wrap ((P : Int) * ((Q : Int) - (k : Int))) = ((P * (Q - k) : Nat) : Int) := by
  have h1 := p_lt Q k P hk h
  rw [left_eq Q k hk, IntKind.wrap_u64, ← Int.natCast_mul]
  generalize P * (Q - k) = x at *
  omega

set_option maxHeartbeats 4000000 in
theorem inverse_core (H Q n : Nat) (w : World) (hH : H < 18446744073709551616) (hQ : Q ≤ 9223372036854775807) (hn : n ≤ 19) (hnQ : n ≤ Q) :
    Calls Trym.prog 4 #[.int .u64 (H : Int), .int .i64 (Q : Int), .int .i64 (n : Int)] w fun e w' => e = .returned (.bool true) ∧ Below w.heap.size w w' := by
  have t1 : decide ((n : Int) < 0) = false := by simp
  have t2 : decide (19 < (n : Int)) = false := by simp; omega
  have t3 : decide ((Q : Int) < (n : Int)) = false := by simp; omega
  go_enter Trym.func4, Trym.ntmps4
  go_wp2_with fail
  refine (zzDealHand_calls H Q n _ hH hQ hn hnQ).mono ?_
  rintro e w1 ⟨rfl, hb1⟩
  have z1 : HoldsD (w1.alloc (.cells (hl z0).toArray 23)) w1.heap.size z0 := heap_new_at _ _ _ rfl
  have hD1 : HoldsD ((w1.alloc (.cells (hl z0).toArray 23)).setRow w1.heap.size (hl (qf Q H n)).toArray) w1.heap.size (qf Q H n) := setRow_heap _ _ _ _ 23 _ z1
  have hB1 : Below w.heap.size w ((w1.alloc (.cells (hl z0).toArray 23)).setRow w1.heap.size (hl (qf Q H n)).toArray) := below_setRow' (hb1.alloc hb1.size _) _ hb1.size _
  clear hb1
  go_wp2_with (refine wpList_store_row rfl 23 _ _ rfl w1.heap.size _ rfl rfl 23 _ z1 (info23 _) (by rw [hl_size, hl_size]) (hl_all _) ?_)
  clear z1
  generalize hb' : w1.heap.size = b at *
  clear hb'
  go_loopw [9, 10, 11, 12, 13] (fun e v p o t wr => ∃ (k : Nat) (ov : Bool) (P : Nat), k ≤ n ∧ t = .int .i64 (k : Int) ∧ e = .int .u64 ((Deal.en Q H k : Nat) : Int) ∧ v = .int .u64 ((Deal.pr Q k % 18446744073709551616 : Nat) : Int) ∧ o = .bool ov ∧ p = .int .u64 (P : Int) ∧ P < 18446744073709551616 ∧ Hid ((ov = false → P = Deal.pr Q k) ∧ (ov = true → 18446744073709551616 ≤ Deal.pr Q k)) ∧ Below w.heap.size w wr ∧ HoldsD wr b (qf Q H n)) (fun _ _ _ _ t _ => n - (intOf t).toNat)
  case atStart => exact ⟨0, false, 1, by omega, rfl, rfl, rfl, rfl, rfl, by omega, ⟨fun _ => rfl, fun h => by cases h⟩, hB1, hD1⟩
  case round =>
    obtain ⟨k, ov, P, hk, rfl, rfl, rfl, rfl, rfl, hP, HO, hB, hD⟩ := hrel
    clear hB1 hD1
    by_cases hlt : k < n
    · have g0 : (k : Int) < (n : Int) := by omega
      have g1 : (k : Int) < 19 := by omega
      have g2 : (0 : Int) ≤ (k : Int) := by omega
      have g3 : (k : Int) < (Q : Int) := by omega
      have g4 : (Q : Int) ≤ 9223372036854775807 := by omega
      have HE := Deal.en_le Q H (k + 1)
      generalize hE : Deal.en Q H k = E at *
      generalize hV : Deal.pr Q k % 18446744073709551616 = V at *
      have HEq : Hid (Deal.en Q H k = E) := hE
      have HVq : Hid (Deal.pr Q k % 18446744073709551616 = V) := hV
      clear hE hV
      go_wp2_with fail
      go_loopw [15, 16] (fun l t wr => ∃ j : Nat, j ≤ k ∧ t = .int .i64 (j : Int) ∧ l = .int .i64 ((Deal.less Q H (Deal.qv Q H k) j : Nat) : Int) ∧ Below w.heap.size w wr ∧ HoldsD wr b (qf Q H n)) (fun _ t _ => k - (intOf t).toNat)
      case atStart => exact ⟨0, by omega, rfl, rfl, hB, hD⟩
      case round =>
        obtain ⟨j, hj, rfl, rfl, hBx, hDx⟩ := hrel
        clear hB hD
        have hl1 := Deal.less_le Q H (Deal.qv Q H k) j
        by_cases hjk : j < k
        · have j0 : (j : Int) < (k : Int) := by omega
          have j1 : (j : Int) < 19 := by omega
          have j2 : (0 : Int) ≤ (j : Int) := by omega
          have d1 := hDx.cell j (by omega)
          have d2 := hDx.cell k (by omega)
          have e1 : qf Q H n j = Deal.qv Q H j := by unfold qf; rw [if_pos (by omega)]
          have e2 : qf Q H n k = Deal.qv Q H k := by unfold qf; rw [if_pos hlt]
          rw [e1] at d1
          rw [e2] at d2
          clear e1 e2
          have HL : Hid (Deal.less Q H (Deal.qv Q H k) (j + 1) = Deal.less Q H (Deal.qv Q H k) j + if Deal.qv Q H j < Deal.qv Q H k then 1 else 0) := rfl
          have l0 : ((Deal.less Q H (Deal.qv Q H k) j : Nat) : Int) ≤ 19 := by omega
          by_cases hle : Deal.qv Q H j < Deal.qv Q H k
          · have gle : ((Deal.qv Q H j : Nat) : Int) < ((Deal.qv Q H k : Nat) : Int) := by omega
            go_wp2_with fail
            go_region
            go_wp2_with fail
            go_roundw
            case rel => exact ⟨j + 1, by omega, by go_num, by rw [HL.out, if_pos hle]; go_num, hBx.drew, hDx⟩
            case measure => simp [intOf]; omega
          · have gle : ¬ ((Deal.qv Q H j : Nat) : Int) < ((Deal.qv Q H k : Nat) : Int) := by omega
            go_wp2_with fail
            go_region
            go_wp2_with fail
            go_roundw
            case rel => exact ⟨j + 1, by omega, by go_num, by rw [HL.out, if_neg hle]; rfl, hBx.drew, hDx⟩
            case measure => simp [intOf]; omega
        · have j0 : ¬ (j : Int) < (k : Int) := by omega
          have d2 := hDx.cell k (by omega)
          have e2 : qf Q H n k = Deal.qv Q H k := by unfold qf; rw [if_pos hlt]
          rw [e2] at d2
          have hdig : Deal.qv Q H k = Deal.rk Q H k + Deal.less Q H (Deal.qv Q H k) j := by rw [show j = k by omega]; exact Deal.digit Q H k
          have hr := Deal.rk_lt Q H k (by omega)
          generalize Deal.less Q H (Deal.qv Q H k) j = l at *
          generalize Deal.qv Q H k = v at *
          have v0 : (l : Int) ≤ (v : Int) := by omega
          have v1 : (v : Int) ≤ 9223372036854775807 := by omega
          have v2 : (0 : Int) ≤ (l : Int) := by omega
          have HD : Hid (v = Deal.rk Q H k + l) := hdig
          have HR : Hid (Deal.rk Q H k < Q - k) := hr
          have HH : Hid (H < 18446744073709551616) := hH
          have HP : Hid (P < 18446744073709551616) := hP
          clear e2 hdig hr hH hP
          cases ov with
          | true =>
            go_wp2_with fail
            go_roundw
            case rel => exact ⟨k + 1, true, P, by omega, by go_num, by rw [enc_eq Q H k E V v l HD.out HEq.out HVq.out HH.out], by rw [w_eq Q k V (by omega) HVq.out], rfl, rfl, HP.out, ⟨fun h => (by cases h), fun _ => pr_over Q k (by omega) (HO.out.2 rfl)⟩, hBx, hDx⟩
            case measure => simp [intOf]; omega
          | false =>
            by_cases hov : 18446744073709551615 / ((Q : Int) - (k : Int)) < (P : Int)
            · go_wp2_with fail
              go_roundw
              case rel => exact ⟨k + 1, true, P, by omega, by go_num, by rw [enc_eq Q H k E V v l HD.out HEq.out HVq.out HH.out], by rw [w_eq Q k V (by omega) HVq.out], rfl, rfl, HP.out, ⟨fun h => (by cases h), fun _ => pr_new Q k P (by omega) (HO.out.1 rfl) (by assumption)⟩, hBx, hDx⟩
              case measure => simp [intOf]; omega
            · have hov' : (P : Int) ≤ 18446744073709551615 / ((Q : Int) - (k : Int)) := by omega
              have HV2 : Hid ((P : Int) ≤ 18446744073709551615 / ((Q : Int) - (k : Int))) := hov'
              clear hov'
              go_wp2_with fail
              go_roundw
              case rel => exact ⟨k + 1, false, P * (Q - k), by omega, by go_num, by rw [enc_eq Q H k E V v l HD.out HEq.out HVq.out HH.out], by rw [w_eq Q k V (by omega) HVq.out], rfl, by rw [p_eq Q k P (by omega) HV2.out], p_lt Q k P (by omega) HV2.out, ⟨fun _ => by rw [HO.out.1 rfl]; rfl, fun h => (by cases h)⟩, hBx, hDx⟩
              case measure => simp [intOf]; omega
    · have g0 : ¬ (k : Int) < (n : Int) := by omega
      obtain rfl : k = n := by omega
      cases ov with
      | true =>
        have ht : (((Deal.en Q H k : Nat) : Int) == (H : Int)) = true := by
          rw [beq_iff_eq, Deal.en_all Q H k hnQ (Nat.lt_of_lt_of_le hH (HO.out.2 rfl))]
        go_wp2_with fail
        go_ret
        exact ⟨rfl, hB⟩
      | false =>
        have hPp : P = Deal.pr Q k := HO.out.1 rfl
        have hpos := Deal.pr_pos Q k hnQ
        have p0 : (0 : Int) < (P : Int) := by omega
        have p1 : (P : Int) ≤ 18446744073709551615 := by omega
        have ht : (((Deal.en Q H k : Nat) : Int) == (H : Int) % (P : Int)) = true := by
          rw [beq_iff_eq, Deal.en_eq Q H k hnQ, hPp]
          exact Int.natCast_emod _ _
        clear hPp hpos
        go_wp2_with fail
        go_ret
        exact ⟨rfl, hB⟩

set_option maxHeartbeats 1000000 in
theorem inverse_out1 (h q n : Int) (w : World) (hs : n < 0) :
    Calls Trym.prog 4 #[.int .u64 h, .int .i64 q, .int .i64 n] w fun e w' => e = .returned (.bool true) ∧ Below w.heap.size w w' := by
  go_enter Trym.func4, Trym.ntmps4
  go_wp2_with fail
  go_ret
  exact ⟨rfl, Below.refl _ _⟩
set_option maxHeartbeats 1000000 in
theorem inverse_out2 (h q n : Int) (w : World) (hs : 19 < n) :
    Calls Trym.prog 4 #[.int .u64 h, .int .i64 q, .int .i64 n] w fun e w' => e = .returned (.bool true) ∧ Below w.heap.size w w' := by
  have t1 : decide (n < 0) = false := by simp; omega
  go_enter Trym.func4, Trym.ntmps4
  go_wp2_with fail
  go_ret
  exact ⟨rfl, Below.refl _ _⟩
set_option maxHeartbeats 1000000 in
theorem inverse_out3 (h q n : Int) (w : World) (h0 : 0 ≤ n) (h1 : n ≤ 19) (hs : q < n) :
    Calls Trym.prog 4 #[.int .u64 h, .int .i64 q, .int .i64 n] w fun e w' => e = .returned (.bool true) ∧ Below w.heap.size w w' := by
  have t1 : decide (n < 0) = false := by simp; omega
  have t2 : decide (19 < n) = false := by simp; omega
  go_enter Trym.func4, Trym.ntmps4
  go_wp2_with fail
  go_ret
  exact ⟨rfl, Below.refl _ _⟩

theorem inverse_walk (h q n : Int) (w : World) (a1 : 0 ≤ h) (a2 : h ≤ 18446744073709551615) (_b1 : -9223372036854775808 ≤ q) (b2 : q ≤ 9223372036854775807) (_c1 : -9223372036854775808 ≤ n) (_c2 : n ≤ 9223372036854775807) :
    Calls Trym.prog 4 #[.int .u64 h, .int .i64 q, .int .i64 n] w fun e w' => e = .returned (.bool true) ∧ Below w.heap.size w w' := by
  by_cases e1 : n < 0
  · exact inverse_out1 h q n w e1
  by_cases e2 : 19 < n
  · exact inverse_out2 h q n w e2
  by_cases e3 : q < n
  · exact inverse_out3 h q n w (by omega) (by omega) e3
  obtain ⟨H, rfl⟩ := Int.eq_ofNat_of_zero_le a1
  obtain ⟨Q, rfl⟩ := Int.eq_ofNat_of_zero_le (show 0 ≤ q by omega)
  obtain ⟨N, rfl⟩ := Int.eq_ofNat_of_zero_le (show 0 ≤ n by omega)
  exact inverse_core H Q N w (by omega) (by omega) (by omega) (by omega)

end Go.Proofs.Qxb6600147aMods
