import Derived.Test.Qxb6614255aModsXorWalk
import Derived.Test.Qxb6614255aModsDblWalk
namespace Go.Proofs.Qxb6614255aMods
open Go.ChangeShapes Go.WideShapes Go.ChangeAt Go.RowKit

theorem Holds16.after {w w' : World} {b : Nat} {t : TypeId} {f : Nat → Nat} (h : Holds16 w b t f) (hb : Below w.heap.size w w') : Holds16 w' b t f := h.below hb h.lt
theorem Below.on {B : Nat} {w a b : World} (h : Below B w a) (hB : B ≤ w.heap.size) (k : Below a.heap.size a b) : Below B w b := h.trans (k.mono (Nat.le_trans hB h.size))

theorem and1_u64 (c : Nat) (hc : c < 18446744073709551616) : bits .and .u64 (c : Int) 1 = ((c % 2 : Nat) : Int) := by
  have := u64_and_nat c 1 hc (by omega)
  rw [Nat.and_two_pow_sub_one_eq_mod c 1] at this
  exact this
theorem bitf_one (m : Nat) (f : Nat → Nat) (h : m % 2 = 1) : Gf.bitf m f = f := by unfold Gf.bitf; rw [if_pos h]
theorem bitf_none (m : Nat) (f : Nat → Nat) (h : ¬ m % 2 = 1) : Gf.bitf m f = Gf.zero := by unfold Gf.bitf; rw [if_neg h]

set_option maxHeartbeats 1000000 in
theorem gfMul_calls (n : Nat) (f : Nat → Nat) (w : World) (hn : n < 18446744073709551616) (hf : Gf.Byte f) :
    Calls Trym.prog 17 #[.int .u64 (n : Int), .agg (bl f).toArray] w fun e w' => e = .returned (.agg (bl (Gf.mul n f)).toArray) ∧ Below w.heap.size w w' := by
  go_enter Trym.func17, Trym.ntmps17
  go_wp2_with fail
  go_loopw [0] (fun i wr => ∃ (m : Nat) (F A : Nat → Nat), m < 18446744073709551616 ∧ i = .int .u64 m ∧ Gf.Byte F ∧ Gf.Byte A ∧ Hid (Gf.fx A (Gf.mul m F) = Gf.mul n f) ∧ Below w.heap.size w wr ∧ Holds16 wr w.heap.size 29 F ∧ Holds16 wr (w.heap.size + 1) 29 Gf.zero ∧ Holds16 wr (w.heap.size + 1 + 1) 29 A) (fun i _ => (intOf i).toNat)
  case atStart =>
    refine ⟨n, f, Gf.zero, hn, rfl, hf, Gf.byte_zero, Gf.zero_fx _, ?_, ?_, ?_, ?_⟩
    · exact (((Below.refl _ _).alloc (Nat.le_refl _) _).alloc (by simp) _).alloc (by simp; omega) _
    · exact ((Holds16.new w 29 f).alloc _).alloc _
    · have := Holds16.new (w.alloc (.cells (bl f).toArray 29)) 29 Gf.zero
      simp at this
      exact this.alloc _
    · have := Holds16.new ((w.alloc (.cells (bl f).toArray 29)).alloc (.cells (bl Gf.zero).toArray 29)) 29 Gf.zero
      simp at this
      exact this
  case round =>
    obtain ⟨m, F, A, hm, rfl, hF, hA, HE, hB, hX, hZ, hC⟩ := hrel
    by_cases hm0 : m = 0
    · subst hm0
      have e : A = Gf.mul n f := by rw [← HE.out, Gf.mul_zero, Gf.fx_zero]
      subst e
      clear HE
      go_wp2_with (first
        | (refine wpList_load_row rfl 29 _ rfl (w.heap.size + 1 + 1) rfl 29 _ (0, 0) _ hC Trym.underlying29 rfl (info29 _) ?_)
        | (refine wpList_store_row rfl 29 _ _ rfl (w.heap.size + 1) _ rfl rfl 29 _ hZ (info29 _) (by rw [bl_size, bl_size]) (bl_all _) ?_))
      exact bodyPost_ret (results_cell_row Trym.results17 _ _ (w.heap.size + 1) 29 _ (0, 0) _ rfl (hZ.setRow _) Trym.underlying29 rfl (info29 _)) rfl ⟨rfl, Below.setRow hB _ (by omega) _⟩
    · have ht : ((m : Int) != 0) = true := by rw [bne_iff_ne]; omega
      have h1 := and1_u64 m hm
      have hstep := Gf.mul_step hF m hm
      have hpos : 0 < m := by omega
      by_cases hodd : m % 2 = 1
      · have ho : (bits .and .u64 (m : Int) 1 == 1) = true := by rw [h1, hodd]; rfl
        have HS : Hid (Gf.fx (Gf.fx A F) (Gf.mul (m / 2) (Gf.dbl F)) = Gf.mul n f) := by
          show _ = _
          rw [← HE.out, hstep, bitf_one m F hodd, Gf.fx_assoc]
        clear h1 hstep HE hodd hm0
        go_wp2_with (first
          | (refine wpList_load_row rfl 29 _ rfl (w.heap.size + 1 + 1) rfl 29 _ (0, 0) _ hC Trym.underlying29 rfl (info29 _) ?_)
          | (refine wpList_load_row rfl 29 _ rfl w.heap.size rfl 29 _ (0, 0) _ hX Trym.underlying29 rfl (info29 _) ?_))
        refine (xorB_calls A F _ hA hF).mono ?_
        rintro e w1 ⟨rfl, hb1⟩
        have hX1 := hX.after hb1
        have hZ1 := hZ.after hb1
        have hC1 := hC.after hb1
        have hB1 := Below.on hB (Nat.le_refl _) hb1
        clear hX hZ hC hB hb1
        have hX2 := hX1.otherRow (w.heap.size + 1 + 1) (bl (Gf.fx A F)).toArray (by omega)
        have hZ2 := hZ1.otherRow (w.heap.size + 1 + 1) (bl (Gf.fx A F)).toArray (by omega)
        have hC2 := hC1.setRow (Gf.fx A F)
        have hB2 := Below.setRow hB1 (w.heap.size + 1 + 1) (by omega) (bl (Gf.fx A F)).toArray
        have hA2 := Gf.byte_fx hA hF
        go_wp2_with (first
          | (refine wpList_store_row rfl 29 _ _ rfl (w.heap.size + 1 + 1) _ rfl rfl 29 _ hC1 (info29 _) (by rw [bl_size, bl_size]) (bl_all _) ?_)
          | (refine wpList_load_row rfl 29 _ rfl w.heap.size rfl 29 _ (0, 0) _ hX2 Trym.underlying29 rfl (info29 _) ?_))
        clear hX1 hZ1 hC1 hB1
        refine (gfDouble_calls F _ hF).mono ?_
        rintro e w2 ⟨rfl, hb2⟩
        have hX3 := hX2.after hb2
        have hZ3 := hZ2.after hb2
        have hC3 := hC2.after hb2
        have hB3 := Below.on hB2 (Nat.le_refl _) hb2
        clear hX2 hZ2 hC2 hB2 hb2
        go_wp2_with (refine wpList_store_row rfl 29 _ _ rfl w.heap.size _ rfl rfl 29 _ hX3 (info29 _) (by rw [bl_size, bl_size]) (bl_all _) ?_)
        go_roundw
        case rel => exact ⟨m / 2, Gf.dbl F, Gf.fx A F, by omega, by go_num, Gf.byte_dbl hF, hA2, HS, Below.setRow hB3 _ (by omega) _, hX3.setRow _, hZ3.otherRow _ _ (by omega), hC3.otherRow _ _ (by omega)⟩
        case measure => simp [intOf]; omega
      · have ho : (bits .and .u64 (m : Int) 1 == 1) = false := by rw [h1, beq_eq_false_iff_ne]; omega
        have HS : Hid (Gf.fx A (Gf.mul (m / 2) (Gf.dbl F)) = Gf.mul n f) := by
          show _ = _
          rw [← HE.out, hstep, bitf_none m F hodd, Gf.zero_fx]
        clear h1 hstep HE hodd hm0
        go_wp2_with (refine wpList_load_row rfl 29 _ rfl w.heap.size rfl 29 _ (0, 0) _ hX Trym.underlying29 rfl (info29 _) ?_)
        refine (gfDouble_calls F _ hF).mono ?_
        rintro e w2 ⟨rfl, hb2⟩
        have hX3 := hX.after hb2
        have hZ3 := hZ.after hb2
        have hC3 := hC.after hb2
        have hB3 := Below.on hB (Nat.le_refl _) hb2
        clear hX hZ hC hB hb2
        go_wp2_with (refine wpList_store_row rfl 29 _ _ rfl w.heap.size _ rfl rfl 29 _ hX3 (info29 _) (by rw [bl_size, bl_size]) (bl_all _) ?_)
        go_roundw
        case rel => exact ⟨m / 2, Gf.dbl F, A, by omega, by go_num, Gf.byte_dbl hF, hA, HS, Below.setRow hB3 _ (by omega) _, hX3.setRow _, hZ3.otherRow _ _ (by omega), hC3.otherRow _ _ (by omega)⟩
        case measure => simp [intOf]; omega

set_option maxHeartbeats 1000000 in
theorem gfPowI_calls (i : Nat) (f : Nat → Nat) (w : World) (hi : i ≤ 100000) (hf : Gf.Byte f) :
    Calls Trym.prog 19 #[.agg (bl f).toArray, .int .i64 (i : Int)] w fun e w' => e = .returned (.agg (bl (Gf.dbls ((i + 7) / 8) f)).toArray) ∧ Below w.heap.size w w' := by
  go_enter Trym.func19, Trym.ntmps19
  go_wp2_with fail
  go_loopw [5] (fun t wr => ∃ k : Nat, k ≤ (i + 7) / 8 ∧ t = .int .i64 k ∧ Below w.heap.size w wr ∧ Holds16 wr w.heap.size 29 (Gf.dbls k f) ∧ Holds16 wr (w.heap.size + 1) 29 Gf.zero) (fun t _ => (i + 7) / 8 - (intOf t).toNat)
  case atStart =>
    refine ⟨0, by omega, rfl, ?_, ?_, ?_⟩
    · exact ((Below.refl _ _).alloc (Nat.le_refl _) _).alloc (by simp) _
    · exact (Holds16.new w 29 f).alloc _
    · have := Holds16.new (w.alloc (.cells (bl f).toArray 29)) 29 Gf.zero
      simp at this
      exact this
  case round =>
    obtain ⟨k, hk, rfl, hB, hX, hZ⟩ := hrel
    have i0 : (0 : Int) ≤ (i : Int) := by omega
    have i1 : (i : Int) ≤ 100000 := by omega
    have hb := Gf.byte_dbls hf k
    by_cases hlt : k < (i + 7) / 8
    · have ht : (k : Int) < ((i : Int) + 7) / 8 := by omega
      go_wp2_with (refine wpList_load_row rfl 29 _ rfl w.heap.size rfl 29 _ (0, 0) _ hX Trym.underlying29 rfl (info29 _) ?_)
      refine (gfDouble_calls (Gf.dbls k f) _ hb).mono ?_
      rintro e w2 ⟨rfl, hb2⟩
      have hX3 := hX.after hb2
      have hZ3 := hZ.after hb2
      have hB3 := Below.on hB (Nat.le_refl _) hb2
      clear hX hZ hB hb2
      go_wp2_with (refine wpList_store_row rfl 29 _ _ rfl w.heap.size _ rfl rfl 29 _ hX3 (info29 _) (by rw [bl_size, bl_size]) (bl_all _) ?_)
      go_roundw
      case rel => exact ⟨k + 1, by omega, by go_num, Below.setRow hB3 _ (by omega) _, hX3.setRow (Gf.dbl (Gf.dbls k f)), hZ3.otherRow _ _ (by omega)⟩
      case measure => simp [intOf]; omega
    · have ht : ¬ (k : Int) < ((i : Int) + 7) / 8 := by omega
      obtain rfl : k = (i + 7) / 8 := by omega
      go_wp2_with (first
        | (refine wpList_load_row rfl 29 _ rfl w.heap.size rfl 29 _ (0, 0) _ hX Trym.underlying29 rfl (info29 _) ?_)
        | (refine wpList_store_row rfl 29 _ _ rfl (w.heap.size + 1) _ rfl rfl 29 _ hZ (info29 _) (by rw [bl_size, bl_size]) (bl_all _) ?_))
      exact bodyPost_ret (results_cell_row Trym.results19 _ _ (w.heap.size + 1) 29 _ (0, 0) _ rfl (hZ.setRow _) Trym.underlying29 rfl (info29 _)) rfl ⟨rfl, Below.setRow hB _ (by omega) _⟩

end Go.Proofs.Qxb6614255aMods
