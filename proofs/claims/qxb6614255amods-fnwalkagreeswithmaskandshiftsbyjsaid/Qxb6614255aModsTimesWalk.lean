import Derived.Test.Qxb6614255aModsMulWalk
import Derived.Test.Qxb6614255aModsLenWalk
namespace Go.Proofs.Qxb6614255aMods
open Go.ChangeShapes Go.WideShapes Go.ChangeAt Go.RowKit

theorem lt_bitLenAux : ∀ (f x : Nat), x < 2 ^ f → x < 2 ^ Lib.bitLenAux f x
  | 0, x, h => h
  | f + 1, x, h => by
    simp only [Lib.bitLenAux]
    split
    · omega
    · have := lt_bitLenAux f (x / 2) (by rw [Nat.pow_succ] at h; omega)
      rw [Nat.add_comm, Nat.pow_succ]
      omega
theorem lt_bitLen (x : Nat) (h : x < 18446744073709551616) : x < 2 ^ Lib.bitLen x := lt_bitLenAux 64 x h
theorem bitLen_64 (x : Nat) (h : x < 18446744073709551616) : Lib.bitLen x ≤ 64 := Lib.bitLen_le x 64 (by omega) h

theorem and1_i64 (a : Int) : bits .and .i64 a 1 = a % 2 := by
  show IntKind.i64.wrap ((BitVec.ofInt 64 a &&& BitVec.ofInt 64 1).toNat : Int) = _
  rw [BitVec.toNat_and]
  have h1 : (BitVec.ofInt 64 1).toNat = 1 := by decide
  rw [h1, Nat.and_two_pow_sub_one_eq_mod _ 1]
  have h2 : ((BitVec.ofInt 64 a).toNat : Int) = a % 18446744073709551616 := by
    rw [BitVec.toNat_ofInt]
    omega
  generalize (BitVec.ofInt 64 a).toNat = N at *
  rw [IntKind.wrap_i64]
  omega

/-- bit k of a 64-bit int, as Go reads it, is bit k of the number modulo 2^64 -/
theorem bit_of (i : Int) (n k : Nat) (hk : k < 64) (hin : i % 18446744073709551616 = (n : Int)) : i / 2 ^ k % 2 = ((n / 2 ^ k % 2 : Nat) : Int) := by
  have hp : (0 : Int) < 2 ^ k := Int.pow_pos (by omega)
  have e : (18446744073709551616 : Int) = 2 ^ k * (2 * 2 ^ (63 - k)) := by
    rw [← Int.mul_assoc, Int.mul_comm (2 ^ k) 2, Int.mul_assoc, ← Int.pow_add, show k + (63 - k) = 63 from by omega]
    decide
  have h : i = 2 ^ k * (2 * 2 ^ (63 - k)) * (i / 18446744073709551616) + n := by
    rw [← e, ← hin]
    omega
  have h' : i / 2 ^ k = (2 * 2 ^ (63 - k)) * (i / 18446744073709551616) + (n : Int) / 2 ^ k := by
    conv => lhs; rw [h]
    rw [Int.mul_assoc, Int.mul_comm (2 ^ k), Int.add_comm, Int.add_mul_ediv_right _ _ (by omega), Int.add_comm]
  rw [h', Int.mul_assoc]
  rw [Int.natCast_emod, Int.natCast_ediv, Int.natCast_pow]
  generalize 2 ^ (63 - k) * (i / 18446744073709551616) = q
  generalize (n : Int) / ((2 : Nat) : Int) ^ k = r
  show (2 * q + r) % 2 = r % 2
  omega


set_option maxHeartbeats 1000000 in
/-- aez.times: n is i modulo 2^64 -/
theorem times_calls (i : Int) (n : Nat) (f : Nat → Nat) (w : World) (hn : n < 18446744073709551616) (hin : i % 18446744073709551616 = (n : Int)) (hf : Gf.Byte f) :
    Calls Trym.prog 32 #[.int .i64 i, .agg (bl f).toArray] w fun e w' => e = .returned (.agg (bl (Gf.mul n f)).toArray) ∧ Below w.heap.size w w' := by
  have l64 := bitLen_64 n hn
  have HL : Hid (n < 2 ^ Lib.bitLen n) := lt_bitLen n hn
  have Hin : Hid (i % 18446744073709551616 = (n : Int)) := hin
  clear hin
  go_enter Trym.func32, Trym.ntmps32
  go_wp2_with fail
  rw [IntKind.wrap_u64, Hin.out]
  refine (len_calls n _ hn).mono ?_
  rintro e w' ⟨rfl, rfl⟩
  generalize Lib.bitLen n = L at *
  go_wp2_with fail
  go_loopw [6] (fun t wr => ∃ k : Nat, k ≤ 64 ∧ t = .int .i64 ((k : Int) - 1) ∧ Below w.heap.size w wr ∧ Holds16 wr w.heap.size 55 f ∧ Holds16 wr (w.heap.size + 1) 55 Gf.zero ∧ Holds16 wr (w.heap.size + 1 + 1) 55 (Gf.mul (n / 2 ^ k) f)) (fun t _ => (intOf t + 1).toNat)
  case atStart =>
    refine ⟨L, l64, by go_num, ?_, ?_, ?_, ?_⟩
    · exact (((Below.refl _ _).alloc (Nat.le_refl _) _).alloc (by simp) _).alloc (by simp; omega) _
    · exact ((Holds16.new w 55 f).alloc _).alloc _
    · have := Holds16.new (w.alloc (.cells (bl f).toArray 55)) 55 Gf.zero
      simp at this
      exact this.alloc _
    · have := Holds16.new ((w.alloc (.cells (bl f).toArray 55)).alloc (.cells (bl Gf.zero).toArray 55)) 55 Gf.zero
      simp at this
      rw [Nat.div_eq_of_lt HL.out, Gf.mul_zero]
      exact this
  case round =>
    obtain ⟨k, hk, rfl, hB, hX, hZ, hP⟩ := hrel
    by_cases hk0 : k = 0
    · subst hk0
      have hP' : Holds16 wr (w.heap.size + 1 + 1) 55 (Gf.mul n f) := by simpa using hP
      clear hP
      go_wp2_with (first
        | (refine wpList_load_row rfl 55 _ rfl (w.heap.size + 1 + 1) rfl 55 _ (0, 0) _ hP' Trym.underlying55 rfl (info55 _) ?_)
        | (refine wpList_store_row rfl 55 _ _ rfl (w.heap.size + 1) _ rfl rfl 55 _ hZ (info55 _) (by rw [bl_size, bl_size]) (bl_all _) ?_))
      exact bodyPost_ret (results_cell_row Trym.results32 _ _ (w.heap.size + 1) 55 _ (0, 0) _ rfl (hZ.setRow _) Trym.underlying55 rfl (info55 _)) rfl ⟨rfl, Below.setRow hB _ (by omega) _⟩
    · obtain ⟨b, rfl⟩ : ∃ b, k = b + 1 := ⟨k - 1, by omega⟩
      have ek : ((b + 1 : Nat) : Int) - 1 = (b : Int) := by omega
      rw [ek]
      have b0 : (0 : Int) ≤ (b : Int) := by omega
      have b1 : (b : Int) < 64 := by omega
      have hQ := Gf.byte_mul hf (n / 2 ^ (b + 1))
      have hbit : bits .and .i64 (i / 2 ^ b) 1 = ((n / 2 ^ b % 2 : Nat) : Int) := by rw [and1_i64]; exact bit_of i n b (by omega) Hin.out
      have hstep : Gf.mul (n / 2 ^ b) f = Gf.fx (Gf.dbl (Gf.mul (n / 2 ^ (b + 1)) f)) (Gf.bitf (n / 2 ^ b) f) := by
        have := Gf.mul_double f (n / 2 ^ b) (Nat.lt_of_le_of_lt (Nat.div_le_self _ _) hn)
        rw [Nat.div_div_eq_div_mul, ← Nat.pow_succ] at this
        exact this
      clear ek hk0
      by_cases hodd : n / 2 ^ b % 2 = 1
      · have ho : (bits .and .i64 (i / 2 ^ b) 1 == 1) = true := by rw [hbit, hodd]; rfl
        have HS : Hid (Gf.mul (n / 2 ^ b) f = Gf.fx (Gf.dbl (Gf.mul (n / 2 ^ (b + 1)) f)) f) := by
          show _ = _
          rw [hstep, bitf_one _ _ hodd]
        clear hbit hstep hodd
        generalize Gf.mul (n / 2 ^ (b + 1)) f = Q at *
        go_wp2_with (refine wpList_load_row rfl 55 _ rfl (w.heap.size + 1 + 1) rfl 55 _ (0, 0) _ hP Trym.underlying55 rfl (info55 _) ?_)
        refine (double_calls Q _ hQ).mono ?_
        rintro e w1 ⟨rfl, hb1⟩
        have hX1 := hX.after hb1
        have hZ1 := hZ.after hb1
        have hP1 := hP.after hb1
        have hB1 := Below.on hB (Nat.le_refl _) hb1
        clear hX hZ hP hB hb1
        have hX2 := hX1.otherRow (w.heap.size + 1 + 1) (bl (Gf.dbl Q)).toArray (by omega)
        have hZ2 := hZ1.otherRow (w.heap.size + 1 + 1) (bl (Gf.dbl Q)).toArray (by omega)
        have hP2 := hP1.setRow (Gf.dbl Q)
        have hB2 := Below.setRow hB1 (w.heap.size + 1 + 1) (by omega) (bl (Gf.dbl Q)).toArray
        go_wp2_with (first
          | (refine wpList_store_row rfl 55 _ _ rfl (w.heap.size + 1 + 1) _ rfl rfl 55 _ hP1 (info55 _) (by rw [bl_size, bl_size]) (bl_all _) ?_)
          | (refine wpList_load_row rfl 55 _ rfl (w.heap.size + 1 + 1) rfl 55 _ (0, 0) _ hP2 Trym.underlying55 rfl (info55 _) ?_)
          | (refine wpList_load_row rfl 55 _ rfl w.heap.size rfl 55 _ (0, 0) _ hX2 Trym.underlying55 rfl (info55 _) ?_))
        clear hX1 hZ1 hP1 hB1
        refine (xor_calls (Gf.dbl Q) f _ (Gf.byte_dbl hQ) hf).mono ?_
        rintro e w2 ⟨rfl, hb2⟩
        have hX3 := hX2.after hb2
        have hZ3 := hZ2.after hb2
        have hP3 := hP2.after hb2
        have hB3 := Below.on hB2 (Nat.le_refl _) hb2
        clear hX2 hZ2 hP2 hB2 hb2
        go_wp2_with (refine wpList_store_row rfl 55 _ _ rfl (w.heap.size + 1 + 1) _ rfl rfl 55 _ hP3 (info55 _) (by rw [bl_size, bl_size]) (bl_all _) ?_)
        go_roundw
        case rel => exact ⟨b, by omega, by go_num, Below.setRow hB3 _ (by omega) _, hX3.otherRow _ _ (by omega), hZ3.otherRow _ _ (by omega), by rw [HS.out]; exact hP3.setRow _⟩
        case measure => simp [intOf]
      · have ho : (bits .and .i64 (i / 2 ^ b) 1 == 1) = false := by rw [hbit, beq_eq_false_iff_ne]; omega
        have HS : Hid (Gf.mul (n / 2 ^ b) f = Gf.dbl (Gf.mul (n / 2 ^ (b + 1)) f)) := by
          show _ = _
          rw [hstep, bitf_none _ _ hodd, Gf.fx_zero]
        clear hbit hstep hodd
        generalize Gf.mul (n / 2 ^ (b + 1)) f = Q at *
        go_wp2_with (refine wpList_load_row rfl 55 _ rfl (w.heap.size + 1 + 1) rfl 55 _ (0, 0) _ hP Trym.underlying55 rfl (info55 _) ?_)
        refine (double_calls Q _ hQ).mono ?_
        rintro e w1 ⟨rfl, hb1⟩
        have hX1 := hX.after hb1
        have hZ1 := hZ.after hb1
        have hP1 := hP.after hb1
        have hB1 := Below.on hB (Nat.le_refl _) hb1
        clear hX hZ hP hB hb1
        go_wp2_with (refine wpList_store_row rfl 55 _ _ rfl (w.heap.size + 1 + 1) _ rfl rfl 55 _ hP1 (info55 _) (by rw [bl_size, bl_size]) (bl_all _) ?_)
        go_roundw
        case rel => exact ⟨b, by omega, by go_num, Below.setRow hB1 _ (by omega) _, hX1.otherRow _ _ (by omega), hZ1.otherRow _ _ (by omega), by rw [HS.out]; exact hP1.setRow _⟩
        case measure => simp [intOf]

end Go.Proofs.Qxb6614255aMods
