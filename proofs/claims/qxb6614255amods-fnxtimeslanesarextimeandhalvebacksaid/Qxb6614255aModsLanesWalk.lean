import Derived.Test.Qxb6614255aModsXtWalks
import Derived.RowKit3
namespace Go.Proofs.Qxb6614255aMods
open Go.ChangeShapes Go.WideShapes Go.ChangeAt Go.RowKit

theorem lxtime_eq (b : Nat) (hb : b < 256) : bits .xor .u8 ((b : Int) * 2 % 256) ((b : Int) / 128 * 27) = ((Xt.xb b : Nat) : Int) := by
  rw [show (b : Int) * 2 % 256 = ((b * 2 % 256 : Nat) : Int) from by omega, show (b : Int) / 128 * 27 = ((b / 128 * 27 : Nat) : Int) from by omega]
  exact u8_xor_nat _ _ (by omega) (by omega)

set_option maxHeartbeats 400000 in
theorem xtime_calls (b : Nat) (w : World) (hb : b < 256) :
    Calls Trym.prog 38 #[.int .u8 (b : Int)] w fun e w' => e = .returned (.int .u8 ((Xt.xb b : Nat) : Int)) ∧ w' = w := by
  go_enter Trym.func38, Trym.ntmps38
  go_wp2
  go_ret
  exact ⟨ret_int (lxtime_eq b hb), rfl⟩

set_option maxHeartbeats 400000 in
theorem zzxtime_calls (b : Nat) (w : World) (hb : b < 256) :
    Calls Trym.prog 23 #[.int .u8 (b : Int)] w fun e w' => e = .returned (.int .u8 ((Xt.xb b : Nat) : Int)) ∧ w' = w := by
  go_enter Trym.func23, Trym.ntmps23
  go_wp2_with (go_at_call 38; refine (xtime_calls b _ hb).mono ?_; rintro e w' ⟨rfl, rfl⟩)
  go_ret
  exact ⟨rfl, rfl⟩

theorem and1_u8 (c : Nat) (hc : c < 256) : bits .and .u8 (c : Int) 1 = ((c % 2 : Nat) : Int) := by
  have := u8_and_nat c 1 hc (by omega)
  rw [Xt.and1] at this
  exact this

theorem hv_odd (c : Nat) (hc : c < 256) (h : c % 2 ≠ 0) : bits .or .u8 (bits .xor .u8 (c : Int) 27 / 2) 128 = ((Xt.hv c : Nat) : Int) := by
  have e1 : bits .xor .u8 (c : Int) 27 = ((c ^^^ 27 : Nat) : Int) := u8_xor_nat c 27 hc (by omega)
  have hb : c ^^^ 27 < 2 ^ 8 := Nat.xor_lt_two_pow (by omega) (by omega)
  rw [e1, show ((c ^^^ 27 : Nat) : Int) / 2 = (((c ^^^ 27) / 2 : Nat) : Int) from by omega]
  unfold Xt.hv
  rw [if_neg h]
  exact u8_or_nat ((c ^^^ 27) / 2) 128 (by omega) (by omega)

set_option maxHeartbeats 400000 in
theorem halve_calls (c : Nat) (w : World) (hc : c < 256) :
    Calls Trym.prog 24 #[.int .u8 (c : Int)] w fun e w' => e = .returned (.int .u8 ((Xt.hv c : Nat) : Int)) ∧ w' = w := by
  have h1 := and1_u8 c hc
  by_cases h : c % 2 = 0
  · have ht : (bits .and .u8 (c : Int) 1 == 0) = true := by rw [h1, h]; rfl
    clear h1
    go_enter Trym.func24, Trym.ntmps24
    go_wp2
    go_ret
    exact ⟨ret_int (by unfold Xt.hv; rw [if_pos h]; omega), rfl⟩
  · have ht : (bits .and .u8 (c : Int) 1 == 0) = false := by rw [h1, beq_eq_false_iff_ne]; omega
    clear h1
    go_enter Trym.func24, Trym.ntmps24
    go_wp2
    go_ret
    exact ⟨ret_int (hv_odd c hc h), rfl⟩

theorem lane_int (i A : Nat) : (A : Int) / 2 ^ (8 * i) % 256 = ((Xt.lane i A : Nat) : Int) := by
  unfold Xt.lane
  rw [Int.natCast_emod, Int.natCast_ediv, Int.natCast_pow]
  rfl
theorem lane_lt (i A : Nat) : Xt.lane i A < 256 := Nat.mod_lt _ (by omega)

set_option maxHeartbeats 1000000 in
theorem lanesWalk (A : Nat) (hA : A < 18446744073709551616) (w : World) :
    Calls Trym.prog 6 #[.int .u64 (A : Int)] w fun e w' => e = .returned (.bool true) ∧ Grown w w' := by
  have hX := xt8_lt A
  go_enter Trym.func6, Trym.ntmps6
  go_wp2_with (go_at_call 22; refine (zzxtimes_calls _ _ hA).mono ?_; rintro e w' ⟨rfl, rfl⟩)
  have HX : Hid (∀ i, i < 8 → Xt.lane i (Xt.xt 8 A) = Xt.xb (Xt.lane i A)) := fun i hi => Xt.lane_xt 8 i A hi
  generalize Xt.xt 8 A = X at *
  go_loop [4] (fun l => ∃ i : Nat, i ≤ 8 ∧ l = .int .u64 (8 * (i : Int))) (fun l => 64 - (intOf l).toNat)
  case atStart => exact ⟨0, by omega, rfl⟩
  case round =>
    obtain ⟨i, hi, rfl⟩ := hrel
    by_cases hlt : i < 8
    · have hg : (8 : Int) * (i : Int) < 64 := by omega
      go_wp2_with fail
      rw [lane_int i A, lane_int i X, HX.out i hlt]
      have hL := lane_lt i A
      generalize Xt.lane i A = L at *
      have hb := Xt.xb_lt L hL
      have hh := Xt.hv_xb L hL
      have Hh : Hid (Xt.hv (Xt.xb L) = L) := hh
      clear hh
      refine (zzxtime_calls _ _ hL).mono ?_
      rintro e w' ⟨rfl, rfl⟩
      go_wp2_with fail
      refine (halve_calls _ _ hb).mono ?_
      rintro e w' ⟨rfl, rfl⟩
      rw [Hh.out]
      go_wp2_with fail
      go_round
      case rel => exact ⟨i + 1, by omega, by go_num⟩
      case measure => simp [intOf]; omega
    · have hg : ¬ (8 : Int) * (i : Int) < 64 := by omega
      go_wp2_with fail
      go_ret
      exact ⟨rfl, Grown.refl _⟩

end Go.Proofs.Qxb6614255aMods
