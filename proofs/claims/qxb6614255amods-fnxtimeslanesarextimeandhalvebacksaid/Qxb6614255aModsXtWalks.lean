import Derived.Test.Qxb6614255aModsRows
import Derived.Test.Qxb6614255aModsXt
import Derived.Laws.BitsAllLaws
import Derived.WalkKit
import Derived.ProofKit
namespace Go.Proofs.Qxb6614255aMods
open Go.ChangeShapes Go.WideShapes Go.ChangeAt Go.RowKit

theorem ret_int {k : IntKind} {a b : Int} (h : a = b) : Ending.returned (.int k a) = .returned (.int k b) := by rw [h]

/-- what the Go text of xtimes reckons, in the walk's own spelling -/
theorem xtimes_eq (x : Nat) (hx : x < 18446744073709551616) :
    bits .xor .u64 (IntKind.u64.wrap (bits .and .u64 (x : Int) 9187201950435737471 * 2)) (IntKind.u64.wrap (bits .and .u64 ((x : Int) / 128) 72340172838076673 * 27)) = ((Xt.xt 8 x : Nat) : Int) := by
  have h1 : bits .and .u64 (x : Int) 9187201950435737471 = ((x &&& 9187201950435737471 : Nat) : Int) := u64_and_nat x 9187201950435737471 hx (by omega)
  have hd : ((x : Int) / 128) = ((x / 128 : Nat) : Int) := by omega
  have h2 : bits .and .u64 ((x : Int) / 128) 72340172838076673 = ((x / 128 &&& 72340172838076673 : Nat) : Int) := by
    rw [hd]; exact u64_and_nat (x / 128) 72340172838076673 (by omega) (by omega)
  have b1 : x &&& 9187201950435737471 ≤ 9187201950435737471 := Nat.and_le_right
  have b2 : x / 128 &&& 72340172838076673 ≤ 72340172838076673 := Nat.and_le_right
  have e : Xt.xt 8 x = ((x &&& 9187201950435737471) * 2) ^^^ ((x / 128 &&& 72340172838076673) * 27) := by
    unfold Xt.xt; rw [Xt.m7_8, Xt.m1_8]
  rw [h1, h2, IntKind.wrap_u64, IntKind.wrap_u64, e]
  generalize x &&& 9187201950435737471 = p at *
  generalize x / 128 &&& 72340172838076673 = q at *
  rw [show (p : Int) * 2 % 18446744073709551616 = ((p * 2 : Nat) : Int) from by omega, show (q : Int) * 27 % 18446744073709551616 = ((q * 27 : Nat) : Int) from by omega]
  exact u64_xor_nat (p * 2) (q * 27) (by omega) (by omega)

theorem xt8_lt (x : Nat) : Xt.xt 8 x < 18446744073709551616 := Xt.xt_lt 8 x

set_option maxHeartbeats 400000 in
theorem xtimes_calls (x : Nat) (w : World) (hx : x < 18446744073709551616) :
    Calls Trym.prog 37 #[.int .u64 (x : Int)] w fun e w' => e = .returned (.int .u64 ((Xt.xt 8 x : Nat) : Int)) ∧ w' = w := by
  go_enter Trym.func37, Trym.ntmps37
  go_wp2
  go_ret
  exact ⟨ret_int (xtimes_eq x hx), rfl⟩

set_option maxHeartbeats 400000 in
theorem zzxtimes_calls (x : Nat) (w : World) (hx : x < 18446744073709551616) :
    Calls Trym.prog 22 #[.int .u64 (x : Int)] w fun e w' => e = .returned (.int .u64 ((Xt.xt 8 x : Nat) : Int)) ∧ w' = w := by
  go_enter Trym.func22, Trym.ntmps22
  go_wp2_with (go_at_call 37; refine (xtimes_calls x _ hx).mono ?_; rintro e w' ⟨rfl, rfl⟩)
  go_ret
  exact ⟨rfl, rfl⟩

end Go.Proofs.Qxb6614255aMods
