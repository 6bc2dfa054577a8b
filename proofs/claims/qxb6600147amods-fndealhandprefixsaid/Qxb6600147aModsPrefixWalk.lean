import Derived.Test.Qxb6600147aModsZzWalk
namespace Go.Proofs.Qxb6600147aMods
open Go.ChangeShapes Go.WideShapes Go.ChangeAt Go.RowKit

set_option maxHeartbeats 4000000 in
theorem prefix_core (H Q n m : Nat) (w : World) (hH : H < 18446744073709551616) (hQ : Q ≤ 9223372036854775807) (hn : n ≤ 19) (hnQ : n ≤ Q) (hm : m ≤ n) :
    Calls Trym.prog 5 #[.int .u64 (H : Int), .int .i64 (Q : Int), .int .i64 (n : Int), .int .i64 (m : Int)] w fun e w' => e = .returned (.bool true) ∧ Below w.heap.size w w' := by
  have t1 : decide ((n : Int) < 0) = false := by simp
  have t2 : decide (19 < (n : Int)) = false := by simp; omega
  have t3 : decide ((Q : Int) < (n : Int)) = false := by simp; omega
  have t4 : decide ((m : Int) < 0) = false := by simp
  have t5 : decide ((n : Int) < (m : Int)) = false := by simp; omega
  have t6 : ((m : Int) != (m : Int)) = false := by simp
  go_enter Trym.func5, Trym.ntmps5
  go_wp2_with fail
  refine (zzDealHand_calls H Q n _ hH hQ hn hnQ).mono ?_
  rintro e w1 ⟨rfl, hb1⟩
  have z1 : HoldsD (w1.alloc (.cells (hl z0).toArray 23)) w1.heap.size z0 := heap_new_at _ _ _ rfl
  have hD1 : HoldsD ((w1.alloc (.cells (hl z0).toArray 23)).setRow w1.heap.size (hl (qf Q H n)).toArray) w1.heap.size (qf Q H n) := setRow_heap _ _ _ _ 23 _ z1
  have hB1 : Below w.heap.size w ((w1.alloc (.cells (hl z0).toArray 23)).setRow w1.heap.size (hl (qf Q H n)).toArray) := below_setRow' (hb1.alloc hb1.size _) _ hb1.size _
  have hsz := hb1.size
  clear hb1
  go_wp2_with (refine wpList_store_row rfl 23 _ _ rfl w1.heap.size _ rfl rfl 23 _ z1 (info23 _) (by rw [hl_size, hl_size]) (hl_all _) ?_)
  clear z1
  refine (zzDealHand_calls H Q m ((w1.alloc (.cells (hl z0).toArray 23)).setRow w1.heap.size (hl (qf Q H n)).toArray) hH hQ (by omega) (by omega)).mono ?_
  rintro e w2 ⟨rfl, hb2⟩
  have hD2 : HoldsD w2 w1.heap.size (qf Q H n) := heap_after hb2 hD1
  have hB2 := below_on hB1 (Nat.le_refl _) hb2
  clear hb2 hD1 hB1
  generalize w1.heap.size = b1 at *
  have hb1 := heap_lt hD2
  have z2 : HoldsD (w2.alloc (.cells (hl z0).toArray 23)) w2.heap.size z0 := heap_new_at _ _ _ rfl
  have hS3 : HoldsD ((w2.alloc (.cells (hl z0).toArray 23)).setRow w2.heap.size (hl (qf Q H m)).toArray) w2.heap.size (qf Q H m) := setRow_heap _ _ _ _ 23 _ z2
  have hD3 : HoldsD ((w2.alloc (.cells (hl z0).toArray 23)).setRow w2.heap.size (hl (qf Q H m)).toArray) b1 (qf Q H n) := (setRow_other _ _ _ _ (by omega)).trans (heap_alloc hD2 _)
  have hB3 : Below w.heap.size w ((w2.alloc (.cells (hl z0).toArray 23)).setRow w2.heap.size (hl (qf Q H m)).toArray) := below_setRow' (hB2.alloc hB2.size _) _ hB2.size _
  clear hD2 hB2
  go_wp2_with (refine wpList_store_row rfl 23 _ _ rfl w2.heap.size _ rfl rfl 23 _ z2 (info23 _) (by rw [hl_size, hl_size]) (hl_all _) ?_)
  clear z2
  go_loopw [13] (fun t wr => ∃ k : Nat, k ≤ m ∧ t = .int .i64 (k : Int) ∧ Below w.heap.size w wr ∧ HoldsD wr w2.heap.size (qf Q H m) ∧ HoldsD wr b1 (qf Q H n)) (fun t _ => m - (intOf t).toNat)
  case atStart => exact ⟨0, by omega, rfl, hB3, hS3, hD3⟩
  case round =>
    obtain ⟨k, hk, rfl, hB, hS, hD⟩ := hrel
    clear hB3 hS3 hD3
    by_cases hlt : k < m
    · have g0 : (k : Int) < (m : Int) := by omega
      have g1 : (k : Int) < 19 := by omega
      have g2 : (0 : Int) ≤ (k : Int) := by omega
      have c1 := hS.cell k (by omega)
      have c2 := hD.cell k (by omega)
      have e1 : qf Q H m k = Deal.qv Q H k := by unfold qf; rw [if_pos hlt]
      have e2 : qf Q H n k = Deal.qv Q H k := by unfold qf; rw [if_pos (by omega)]
      rw [e1] at c1
      rw [e2] at c2
      clear e1 e2
      go_wp2_with fail
      go_region
      go_wp2_with fail
      go_roundw
      case rel => exact ⟨k + 1, by omega, by go_num, hB.drew, hS, hD⟩
      case measure => simp [intOf]; omega
    · have g0 : ¬ (k : Int) < (m : Int) := by omega
      go_wp2_with fail
      go_ret
      exact ⟨rfl, hB⟩


set_option maxHeartbeats 1000000 in
theorem prefix_out1 (h q n m : Int) (w : World) (hs : n < 0) :
    Calls Trym.prog 5 #[.int .u64 h, .int .i64 q, .int .i64 n, .int .i64 m] w fun e w' => e = .returned (.bool true) ∧ Below w.heap.size w w' := by
  go_enter Trym.func5, Trym.ntmps5
  go_wp2_with fail
  go_ret
  exact ⟨rfl, Below.refl _ _⟩
set_option maxHeartbeats 1000000 in
theorem prefix_out2 (h q n m : Int) (w : World) (hs : 19 < n) :
    Calls Trym.prog 5 #[.int .u64 h, .int .i64 q, .int .i64 n, .int .i64 m] w fun e w' => e = .returned (.bool true) ∧ Below w.heap.size w w' := by
  have t1 : decide (n < 0) = false := by simp; omega
  go_enter Trym.func5, Trym.ntmps5
  go_wp2_with fail
  go_ret
  exact ⟨rfl, Below.refl _ _⟩
set_option maxHeartbeats 1000000 in
theorem prefix_out3 (h q n m : Int) (w : World) (h0 : 0 ≤ n) (h1 : n ≤ 19) (hs : q < n) :
    Calls Trym.prog 5 #[.int .u64 h, .int .i64 q, .int .i64 n, .int .i64 m] w fun e w' => e = .returned (.bool true) ∧ Below w.heap.size w w' := by
  have t1 : decide (n < 0) = false := by simp; omega
  have t2 : decide (19 < n) = false := by simp; omega
  go_enter Trym.func5, Trym.ntmps5
  go_wp2_with fail
  go_ret
  exact ⟨rfl, Below.refl _ _⟩
set_option maxHeartbeats 1000000 in
theorem prefix_out4 (h q n m : Int) (w : World) (h0 : 0 ≤ n) (h1 : n ≤ 19) (h2 : n ≤ q) (hs : m < 0) :
    Calls Trym.prog 5 #[.int .u64 h, .int .i64 q, .int .i64 n, .int .i64 m] w fun e w' => e = .returned (.bool true) ∧ Below w.heap.size w w' := by
  have t1 : decide (n < 0) = false := by simp; omega
  have t2 : decide (19 < n) = false := by simp; omega
  have t3 : decide (q < n) = false := by simp; omega
  go_enter Trym.func5, Trym.ntmps5
  go_wp2_with fail
  go_ret
  exact ⟨rfl, Below.refl _ _⟩
set_option maxHeartbeats 1000000 in
theorem prefix_out5 (h q n m : Int) (w : World) (h0 : 0 ≤ n) (h1 : n ≤ 19) (h2 : n ≤ q) (h3 : 0 ≤ m) (hs : n < m) :
    Calls Trym.prog 5 #[.int .u64 h, .int .i64 q, .int .i64 n, .int .i64 m] w fun e w' => e = .returned (.bool true) ∧ Below w.heap.size w w' := by
  have t1 : decide (n < 0) = false := by simp; omega
  have t2 : decide (19 < n) = false := by simp; omega
  have t3 : decide (q < n) = false := by simp; omega
  have t4 : decide (m < 0) = false := by simp; omega
  go_enter Trym.func5, Trym.ntmps5
  go_wp2_with fail
  go_ret
  exact ⟨rfl, Below.refl _ _⟩

theorem prefix_walk (h q n m : Int) (w : World) (a1 : 0 ≤ h) (a2 : h ≤ 18446744073709551615) (_b1 : -9223372036854775808 ≤ q) (b2 : q ≤ 9223372036854775807) (_c1 : -9223372036854775808 ≤ n) (_c2 : n ≤ 9223372036854775807) (_d1 : -9223372036854775808 ≤ m) (_d2 : m ≤ 9223372036854775807) :
    Calls Trym.prog 5 #[.int .u64 h, .int .i64 q, .int .i64 n, .int .i64 m] w fun e w' => e = .returned (.bool true) ∧ Below w.heap.size w w' := by
  by_cases e1 : n < 0
  · exact prefix_out1 h q n m w e1
  by_cases e2 : 19 < n
  · exact prefix_out2 h q n m w e2
  by_cases e3 : q < n
  · exact prefix_out3 h q n m w (by omega) (by omega) e3
  by_cases e4 : m < 0
  · exact prefix_out4 h q n m w (by omega) (by omega) (by omega) e4
  by_cases e5 : n < m
  · exact prefix_out5 h q n m w (by omega) (by omega) (by omega) (by omega) e5
  obtain ⟨H, rfl⟩ := Int.eq_ofNat_of_zero_le a1
  obtain ⟨Q, rfl⟩ := Int.eq_ofNat_of_zero_le (show 0 ≤ q by omega)
  obtain ⟨N, rfl⟩ := Int.eq_ofNat_of_zero_le (show 0 ≤ n by omega)
  obtain ⟨M, rfl⟩ := Int.eq_ofNat_of_zero_le (show 0 ≤ m by omega)
  exact prefix_core H Q N M w (by omega) (by omega) (by omega) (by omega) (by omega)

end Go.Proofs.Qxb6600147aMods
