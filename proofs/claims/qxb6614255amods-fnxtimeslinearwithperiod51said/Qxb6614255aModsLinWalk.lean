import Derived.Test.Qxb6614255aModsXtWalks
import Derived.RowKit3
namespace Go.Proofs.Qxb6614255aMods
open Go.ChangeShapes Go.WideShapes Go.ChangeAt Go.RowKit

theorem itx_lt (k A : Nat) (hA : A < 18446744073709551616) : Xt.it (Xt.xt 8) k A < 18446744073709551616 := Xt.it_xt_lt 8 k A hA

theorem lin_test (A B : Nat) : (((Xt.xt 8 (A ^^^ B) : Nat) : Int) != bits .xor .u64 ((Xt.xt 8 A : Nat) : Int) ((Xt.xt 8 B : Nat) : Int)) = false := by
  rw [u64_xor_nat _ _ (xt8_lt A) (xt8_lt B), Xt.xt_lin]
  simp

theorem per_test (k A : Nat) (hA : A < 18446744073709551616) (hk : k < 50) (h0 : A ≠ 0) : (((Xt.xt 8 (Xt.it (Xt.xt 8) k A) : Nat) : Int) == (A : Int)) = false := by
  have := Xt.itk 8 k hk A hA
  simp only [beq_eq_false_iff_ne, ne_eq, Int.natCast_inj]
  intro e
  exact h0 (this e)

theorem end_test (A : Nat) (hA : A < 18446744073709551616) : (((Xt.it (Xt.xt 8) 51 A : Nat) : Int) == (A : Int)) = true := by
  rw [Xt.it51 8 A hA]; simp

set_option maxHeartbeats 1000000 in
theorem linWalk (A B : Nat) (hA : A < 18446744073709551616) (hB : B < 18446744073709551616) (w : World) :
    Calls Trym.prog 7 #[.int .u64 (A : Int), .int .u64 (B : Int)] w fun e w' => e = .returned (.bool true) ∧ Grown w w' := by
  have hAB : A ^^^ B < 18446744073709551616 := Nat.xor_lt_two_pow (n := 64) hA hB
  have Hex : Hid (bits .xor .u64 (A : Int) (B : Int) = ((A ^^^ B : Nat) : Int)) := u64_xor_nat A B hA hB
  have ht := lin_test A B
  go_enter Trym.func7, Trym.ntmps7
  go_wp2_with fail
  rw [Hex.out]
  refine (zzxtimes_calls _ _ hAB).mono ?_
  rintro e w' ⟨rfl, rfl⟩
  go_wp2_with fail
  refine (zzxtimes_calls _ _ hA).mono ?_
  rintro e w' ⟨rfl, rfl⟩
  go_wp2_with fail
  refine (zzxtimes_calls _ _ hB).mono ?_
  rintro e w' ⟨rfl, rfl⟩
  go_wp2_with fail
  clear ht
  generalize bits .xor .u64 ((Xt.xt 8 A : Nat) : Int) ((Xt.xt 8 B : Nat) : Int) = X3
  generalize Xt.xt 8 (A ^^^ B) = X0
  generalize Xt.xt 8 A = X1
  generalize Xt.xt 8 B = X2
  clear Hex
  generalize A ^^^ B = X4 at *
  go_loop [5, 6] (fun x i => ∃ k : Nat, k ≤ 51 ∧ i = .int .i64 ((k : Int) + 1) ∧ x = .int .u64 ((Xt.it (Xt.xt 8) k A : Nat) : Int)) (fun _ i => 52 - (intOf i).toNat)
  case atStart => exact ⟨0, by omega, rfl, rfl⟩
  case round =>
    obtain ⟨k, hk, rfl, rfl⟩ := hrel
    have hi := itx_lt k A hA
    by_cases hlt : k < 51
    · have hg0 : (k : Int) + 1 ≤ 51 := by omega
      by_cases hlt2 : k < 50
      · have hg : (k : Int) + 1 < 51 := by omega
        by_cases h0 : A = 0
        · have h0' : ((A : Int) != 0) = false := by subst h0; rfl
          have Hh : Hid (A = 0) := h0
          clear h0
          go_wp2_with (go_at_call 22; refine (zzxtimes_calls _ _ hi).mono ?_; rintro e w' ⟨rfl, rfl⟩)
          go_round
          case rel => exact ⟨k + 1, by omega, by go_num, rfl⟩
          case measure => simp [intOf]; omega
        · have h0' : ((A : Int) != 0) = true := by rw [bne_iff_ne]; omega
          have ht := per_test k A hA hlt2 h0
          clear h0
          go_wp2_with (go_at_call 22; refine (zzxtimes_calls _ _ hi).mono ?_; rintro e w' ⟨rfl, rfl⟩)
          go_round
          case rel => exact ⟨k + 1, by omega, by go_num, rfl⟩
          case measure => simp [intOf]; omega
      · have hg : decide ((k : Int) + 1 < 51) = false := by simp; omega
        go_wp2_with (go_at_call 22; refine (zzxtimes_calls _ _ hi).mono ?_; rintro e w' ⟨rfl, rfl⟩)
        go_round
        case rel => exact ⟨k + 1, by omega, by go_num, rfl⟩
        case measure => simp [intOf]; omega
    · have hg0 : ¬ (k : Int) + 1 ≤ 51 := by omega
      have hk51 : k = 51 := by omega
      subst hk51
      have ht := end_test A hA
      go_wp2_with fail
      go_ret
      exact ⟨rfl, Grown.refl _⟩

end Go.Proofs.Qxb6614255aMods
