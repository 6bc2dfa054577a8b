import Derived.Test.Qxb6600147aModsZzWalk
namespace Go.Proofs.Qxb6600147aMods
open Go.ChangeShapes Go.WideShapes Go.ChangeAt Go.RowKit

set_option maxHeartbeats 4000000 in
theorem distinct_core (H Q n : Nat) (w : World) (hH : H < 18446744073709551616) (hQ : Q ≤ 9223372036854775807) (hn : n ≤ 19) (hnQ : n ≤ Q) :
    Calls Trym.prog 3 #[.int .u64 (H : Int), .int .i64 (Q : Int), .int .i64 (n : Int)] w fun e w' => e = .returned (.bool true) ∧ Below w.heap.size w w' := by
  have t1 : decide ((n : Int) < 0) = false := by simp
  have t2 : decide (19 < (n : Int)) = false := by simp; omega
  have t3 : decide ((Q : Int) < (n : Int)) = false := by simp; omega
  have t6 : ((n : Int) != (n : Int)) = false := by simp
  go_enter Trym.func3, Trym.ntmps3
  go_wp2_with fail
  refine (zzDealHand_calls H Q n _ hH hQ hn hnQ).mono ?_
  rintro e w1 ⟨rfl, hb1⟩
  have z1 : HoldsD (w1.alloc (.cells (hl z0).toArray 23)) w1.heap.size z0 := heap_new_at _ _ _ rfl
  have hD1 : HoldsD ((w1.alloc (.cells (hl z0).toArray 23)).setRow w1.heap.size (hl (qf Q H n)).toArray) w1.heap.size (qf Q H n) := setRow_heap _ _ _ _ 23 _ z1
  have hB1 : Below w.heap.size w ((w1.alloc (.cells (hl z0).toArray 23)).setRow w1.heap.size (hl (qf Q H n)).toArray) := below_setRow' (hb1.alloc hb1.size _) _ hb1.size _
  clear hb1
  go_wp2_with (refine wpList_store_row rfl 23 _ _ rfl w1.heap.size _ rfl rfl 23 _ z1 (info23 _) (by rw [hl_size, hl_size]) (hl_all _) ?_)
  clear z1
  go_loopw [9] (fun t wr => ∃ k : Nat, k ≤ 19 ∧ t = .int .i64 (k : Int) ∧ Below w.heap.size w wr ∧ HoldsD wr w1.heap.size (qf Q H n)) (fun t _ => 19 - (intOf t).toNat)
  case atStart => exact ⟨0, by omega, rfl, hB1, hD1⟩
  case round =>
    obtain ⟨k, hk, rfl, hB, hD⟩ := hrel
    clear hB1 hD1
    by_cases hlt : k < 19
    · have g1 : (k : Int) < 19 := by omega
      have g2 : (0 : Int) ≤ (k : Int) := by omega
      have c1 := hD.cell k (by omega)
      by_cases hkn : k < n
      · have g3 : ¬ (n : Int) ≤ (k : Int) := by omega
        have e1 : qf Q H n k = Deal.qv Q H k := by unfold qf; rw [if_pos hkn]
        rw [e1] at c1
        have q1 := Deal.qv_lt Q H k (by omega)
        have q2 : decide (((Deal.qv Q H k : Nat) : Int) < 0) = false := by simp
        have q3 : ¬ (Q : Int) ≤ ((Deal.qv Q H k : Nat) : Int) := by omega
        have HN : Hid (∀ j, j < k → Deal.qv Q H j ≠ Deal.qv Q H k) := fun j hj => Deal.qv_ne Q H k j hj
        clear e1
        go_wp2_with fail
        clear c1
        go_loopw [10] (fun t wx => ∃ j : Nat, j ≤ k ∧ t = .int .i64 (j : Int) ∧ Below w.heap.size w wx ∧ HoldsD wx w1.heap.size (qf Q H n)) (fun t _ => k - (intOf t).toNat)
        case atStart => exact ⟨0, by omega, rfl, hB, hD⟩
        case round =>
          obtain ⟨j, hj, rfl, hBx, hDx⟩ := hrel
          clear hB hD
          by_cases hjk : j < k
          · have j0 : (j : Int) < (k : Int) := by omega
            have j1 : (j : Int) < 19 := by omega
            have j2 : (0 : Int) ≤ (j : Int) := by omega
            have d1 := hDx.cell j (by omega)
            have d2 := hDx.cell k (by omega)
            have e1 : qf Q H n j = Deal.qv Q H j := by unfold qf; rw [if_pos (by omega)]
            have e2 : qf Q H n k = Deal.qv Q H k := by unfold qf; rw [if_pos hkn]
            rw [e1] at d1
            rw [e2] at d2
            clear e1 e2
            have hne : (((Deal.qv Q H j : Nat) : Int) == ((Deal.qv Q H k : Nat) : Int)) = false := by
              rw [beq_eq_false_iff_ne]
              have := HN.out j hjk
              omega
            go_wp2_with fail
            go_region
            go_wp2_with fail
            go_roundw
            case rel => exact ⟨j + 1, by omega, by go_num, hBx.drew, hDx⟩
            case measure => simp [intOf]; omega
          · have j0 : ¬ (j : Int) < (k : Int) := by omega
            go_wp2_with fail
            go_roundw
            case rel => exact ⟨k + 1, by omega, by go_num, hBx, hDx⟩
            case measure => simp [intOf]; omega
      · have g3 : (n : Int) ≤ (k : Int) := by omega
        have e1 : qf Q H n k = 0 := by unfold qf; rw [if_neg hkn]
        rw [e1] at c1
        clear e1
        go_wp2_with fail
        go_roundw
        case rel => exact ⟨k + 1, by omega, by go_num, hB, hD⟩
        case measure => simp [intOf]; omega
    · have g0 : ¬ (k : Int) < 19 := by omega
      go_wp2_with fail
      go_ret
      exact ⟨rfl, hB⟩


set_option maxHeartbeats 1000000 in
theorem distinct_out1 (h q n : Int) (w : World) (hs : n < 0) :
    Calls Trym.prog 3 #[.int .u64 h, .int .i64 q, .int .i64 n] w fun e w' => e = .returned (.bool true) ∧ Below w.heap.size w w' := by
  go_enter Trym.func3, Trym.ntmps3
  go_wp2_with fail
  go_ret
  exact ⟨rfl, Below.refl _ _⟩
set_option maxHeartbeats 1000000 in
theorem distinct_out2 (h q n : Int) (w : World) (hs : 19 < n) :
    Calls Trym.prog 3 #[.int .u64 h, .int .i64 q, .int .i64 n] w fun e w' => e = .returned (.bool true) ∧ Below w.heap.size w w' := by
  have t1 : decide (n < 0) = false := by simp; omega
  go_enter Trym.func3, Trym.ntmps3
  go_wp2_with fail
  go_ret
  exact ⟨rfl, Below.refl _ _⟩
set_option maxHeartbeats 1000000 in
theorem distinct_out3 (h q n : Int) (w : World) (h0 : 0 ≤ n) (h1 : n ≤ 19) (hs : q < n) :
    Calls Trym.prog 3 #[.int .u64 h, .int .i64 q, .int .i64 n] w fun e w' => e = .returned (.bool true) ∧ Below w.heap.size w w' := by
  have t1 : decide (n < 0) = false := by simp; omega
  have t2 : decide (19 < n) = false := by simp; omega
  go_enter Trym.func3, Trym.ntmps3
  go_wp2_with fail
  go_ret
  exact ⟨rfl, Below.refl _ _⟩

theorem distinct_walk (h q n : Int) (w : World) (a1 : 0 ≤ h) (a2 : h ≤ 18446744073709551615) (_b1 : -9223372036854775808 ≤ q) (b2 : q ≤ 9223372036854775807) (_c1 : -9223372036854775808 ≤ n) (_c2 : n ≤ 9223372036854775807) :
    Calls Trym.prog 3 #[.int .u64 h, .int .i64 q, .int .i64 n] w fun e w' => e = .returned (.bool true) ∧ Below w.heap.size w w' := by
  by_cases e1 : n < 0
  · exact distinct_out1 h q n w e1
  by_cases e2 : 19 < n
  · exact distinct_out2 h q n w e2
  by_cases e3 : q < n
  · exact distinct_out3 h q n w (by omega) (by omega) e3
  obtain ⟨H, rfl⟩ := Int.eq_ofNat_of_zero_le a1
  obtain ⟨Q, rfl⟩ := Int.eq_ofNat_of_zero_le (show 0 ≤ q by omega)
  obtain ⟨N, rfl⟩ := Int.eq_ofNat_of_zero_le (show 0 ≤ n by omega)
  exact distinct_core H Q N w (by omega) (by omega) (by omega) (by omega)

end Go.Proofs.Qxb6600147aMods
