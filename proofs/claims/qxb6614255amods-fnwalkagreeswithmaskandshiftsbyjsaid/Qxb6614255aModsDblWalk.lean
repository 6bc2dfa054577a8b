import Derived.Test.Qxb6614255aModsBlk
import Derived.Test.Qxb6614255aModsGf
namespace Go.Proofs.Qxb6614255aMods
open Go.ChangeShapes Go.WideShapes Go.ChangeAt Go.RowKit

def dk (f : Nat → Nat) (k : Nat) (i : Nat) : Nat := if i < k then (f i * 2 % 256) ||| (f (i + 1) / 128) else 0
theorem dk_zero (f : Nat → Nat) : dk f 0 = fun _ => 0 := by funext i; simp [dk]
theorem dk_succ (f : Nat → Nat) (k i : Nat) : (if i = k then (f k * 2 % 256) ||| (f (k + 1) / 128) else dk f k i) = dk f (k + 1) i := by
  simp only [dk]
  by_cases e : i = k
  · subst e; simp
  · rw [if_neg e]
    by_cases h : i < k
    · rw [if_pos h, if_pos (by omega)]
    · rw [if_neg h, if_neg (by omega)]
theorem dk_end (f : Nat → Nat) (i : Nat) (hi : i < 16) : (if i = 15 then (f 15 * 2 % 256) ^^^ (f 0 / 128 * 135) else dk f 15 i) = Gf.dbl f i := by
  simp only [dk, Gf.dbl]
  by_cases e : i = 15
  · subst e; simp
  · rw [if_neg e, if_pos (by omega), if_pos (by omega)]
theorem dk_byte (f : Nat → Nat) (hf : Gf.Byte f) (k : Nat) : (f k * 2 % 256) ||| (f (k + 1) / 128) < 256 := by
  have := hf (k + 1)
  exact Nat.or_lt_two_pow (n := 8) (by omega) (by omega)
theorem or_eq (a b : Nat) (hb : b < 256) : bits .or .u8 ((a : Int) * 2 % 256) ((b : Int) / 128) = (((a * 2 % 256) ||| (b / 128) : Nat) : Int) := by
  rw [show (a : Int) * 2 % 256 = ((a * 2 % 256 : Nat) : Int) from by omega, show (b : Int) / 128 = ((b / 128 : Nat) : Int) from by omega]
  exact u8_or_nat _ _ (by omega) (by omega)

theorem last_eq (a b : Nat) (hb : b < 256) : bits .xor .u8 ((a : Int) * 2 % 256) ((b : Int) / 128 * 135) = (((a * 2 % 256) ^^^ (b / 128 * 135) : Nat) : Int) := by
  rw [show (a : Int) * 2 % 256 = ((a * 2 % 256 : Nat) : Int) from by omega, show (b : Int) / 128 * 135 = ((b / 128 * 135 : Nat) : Int) from by omega]
  exact u8_xor_nat _ _ (by omega) (by omega)

set_option maxHeartbeats 1000000 in
/-- aez.double -/
theorem double_calls (f : Nat → Nat) (w : World) (hf : Gf.Byte f) :
    Calls Trym.prog 45 #[.agg (bl f).toArray] w fun e w' => e = .returned (.agg (bl (Gf.dbl f)).toArray) ∧ Below w.heap.size w w' := by
  go_enter Trym.func45, Trym.ntmps45
  go_wp2_with fail
  go_loopw [5] (fun i wr => ∃ k : Nat, k ≤ 15 ∧ i = .int .i64 k ∧ Below w.heap.size w wr ∧ Holds16 wr w.heap.size 55 f ∧ Holds16 wr (w.heap.size + 1) 55 (fun _ => 0) ∧ Holds16 wr (w.heap.size + 1 + 1) 55 (dk f k)) (fun i _ => 15 - (intOf i).toNat)
  case atStart =>
    refine ⟨0, by omega, rfl, ?_, ?_, ?_, ?_⟩
    · exact (((Below.refl _ _).alloc (Nat.le_refl _) _).alloc (by simp) _).alloc (by simp; omega) _
    · exact ((Holds16.new w 55 f).alloc _).alloc _
    · have := Holds16.new (w.alloc (.cells (bl f).toArray 55)) 55 fun _ => 0
      simp at this
      exact this.alloc _
    · have := Holds16.new ((w.alloc (.cells (bl f).toArray 55)).alloc (.cells (bl fun _ => 0).toArray 55)) 55 fun _ => 0
      simp at this
      rw [dk_zero]
      exact this
  case round =>
    obtain ⟨k, hk, rfl, hB, hA, hZ, hY⟩ := hrel
    by_cases hlt : k < 15
    · have k1 : (0 : Int) ≤ (k : Int) := by omega
      have k2 : (k : Int) < 15 := by omega
      have c1 := hA.cell k (by omega)
      have c2 := hA.cell (k + 1) (by omega)
      have c4 := hY.cell k (by omega)
      have c3 := hY.frozen k
      have b1 := hf k
      have b2 := hf (k + 1)
      go_wp2_with fail
      go_region
      rw [or_eq _ _ b2]
      go_wp2_with fail
      go_roundw
      case rel =>
        refine ⟨k + 1, by omega, by go_num, (hB.setCell (p := ⟨w.heap.size + 1 + 1, k, none⟩) (by simp; omega) _).drew, ?_, ?_, ?_⟩
        · exact (hA.other _ _ _ (by omega)).drew
        · exact (hZ.other _ _ _ (by omega)).drew
        · exact ((hY.set k ((f k * 2 % 256) ||| (f (k + 1) / 128))).drew).congr fun i _ => dk_succ f k i
      case measure => simp [intOf]; omega
    · obtain rfl : k = 15 := by omega
      have c1 := hA.cell 15 (by omega)
      have c2 := hA.cell 0 (by omega)
      have c4 := hY.cell 15 (by omega)
      have c3 := hY.frozen 15
      have b1 := hf 15
      have b2 := hf 0
      have hY' : Holds16 (wr.setCell ⟨w.heap.size + 1 + 1, 15, none⟩ (.int .u8 (((f 15 * 2 % 256) ^^^ (f 0 / 128 * 135) : Nat) : Int))) (w.heap.size + 1 + 1) 55 (Gf.dbl f) := (hY.set 15 _).congr fun i hi => dk_end f i hi
      rw [← last_eq _ _ b2] at hY'
      have HY : Hid (Holds16 _ _ _ _) := hY'
      have HZ : Hid (Holds16 _ _ _ _) := hZ.other (w.heap.size + 1 + 1) 15 (.int .u8 (bits .xor .u8 (((f 15 : Nat) : Int) * 2 % 256) (((f 0 : Nat) : Int) / 128 * 135))) (by omega)
      have HB : Hid (Below _ _ _) := hB.setCell (p := ⟨w.heap.size + 1 + 1, 15, none⟩) (by simp; omega) (.int .u8 (bits .xor .u8 (((f 15 : Nat) : Int) * 2 % 256) (((f 0 : Nat) : Int) / 128 * 135)))
      clear hY hZ hB hA hY'
      go_wp2_with (first
        | (refine wpList_load_row rfl 55 _ rfl (w.heap.size + 1 + 1) rfl 55 _ (0, 0) _ HY.out Trym.underlying55 rfl (info55 _) ?_)
        | (refine wpList_store_row rfl 55 _ _ rfl (w.heap.size + 1) _ rfl rfl 55 _ HZ.out (info55 _) (by rw [bl_size, bl_size]) (bl_all _) ?_))
      exact bodyPost_ret (results_cell_row Trym.results45 _ _ (w.heap.size + 1) 55 _ (0, 0) _ rfl (HZ.out.setRow _) Trym.underlying55 rfl (info55 _)) rfl ⟨rfl, Below.setRow HB.out _ (by omega) _⟩

theorem dk_end0 (f : Nat → Nat) (hc : f 0 / 128 = 0) (i : Nat) (hi : i < 16) : (if i = 15 then f 15 * 2 % 256 else dk f 15 i) = Gf.dbl f i := by
  rw [← dk_end f i hi, hc]; simp
theorem dk_end1 (f : Nat → Nat) (hc : f 0 / 128 = 1) (i : Nat) (hi : i < 16) : (if i = 15 then (f 15 * 2 % 256) ^^^ 135 else dk f 15 i) = Gf.dbl f i := by
  rw [← dk_end f i hi, hc]

set_option maxHeartbeats 1000000 in
/-- the law's own gfDouble -/
theorem gfDouble_calls (f : Nat → Nat) (w : World) (hf : Gf.Byte f) :
    Calls Trym.prog 34 #[.agg (bl f).toArray] w fun e w' => e = .returned (.agg (bl (Gf.dbl f)).toArray) ∧ Below w.heap.size w w' := by
  have b0 := hf 0
  have c0 := bl_get f 0 (by omega)
  go_enter Trym.func34, Trym.ntmps34
  go_wp2_with fail
  clear c0
  go_loopw [5] (fun i wr => ∃ k : Nat, k ≤ 15 ∧ i = .int .i64 k ∧ Below w.heap.size w wr ∧ Holds16 wr w.heap.size 29 f ∧ Holds16 wr (w.heap.size + 1) 29 (fun _ => 0) ∧ Holds16 wr (w.heap.size + 1 + 1) 29 (dk f k)) (fun i _ => 15 - (intOf i).toNat)
  case atStart =>
    refine ⟨0, by omega, rfl, ?_, ?_, ?_, ?_⟩
    · exact (((Below.refl _ _).alloc (Nat.le_refl _) _).alloc (by simp) _).alloc (by simp; omega) _
    · exact ((Holds16.new w 29 f).alloc _).alloc _
    · have := Holds16.new (w.alloc (.cells (bl f).toArray 29)) 29 fun _ => 0
      simp at this
      exact this.alloc _
    · have := Holds16.new ((w.alloc (.cells (bl f).toArray 29)).alloc (.cells (bl fun _ => 0).toArray 29)) 29 fun _ => 0
      simp at this
      rw [dk_zero]
      exact this
  case round =>
    obtain ⟨k, hk, rfl, hB, hA, hZ, hY⟩ := hrel
    by_cases hlt : k < 15
    · have k1 : (0 : Int) ≤ (k : Int) := by omega
      have k2 : (k : Int) < 15 := by omega
      have c1 := hA.cell k (by omega)
      have c2 := hA.cell (k + 1) (by omega)
      have c4 := hY.cell k (by omega)
      have c3 := hY.frozen k
      have b1 := hf k
      have b2 := hf (k + 1)
      go_wp2_with fail
      go_region
      rw [or_eq _ _ b2]
      go_wp2_with fail
      go_roundw
      case rel =>
        refine ⟨k + 1, by omega, by go_num, (hB.setCell (p := ⟨w.heap.size + 1 + 1, k, none⟩) (by simp; omega) _).drew, ?_, ?_, ?_⟩
        · exact (hA.other _ _ _ (by omega)).drew
        · exact (hZ.other _ _ _ (by omega)).drew
        · exact ((hY.set k ((f k * 2 % 256) ||| (f (k + 1) / 128))).drew).congr fun i _ => dk_succ f k i
      case measure => simp [intOf]; omega
    · obtain rfl : k = 15 := by omega
      have c1 := hA.cell 15 (by omega)
      have c4 := hY.cell 15 (by omega)
      have c3 := hY.frozen 15
      have b1 := hf 15
      have e15 : ((f 15 : Nat) : Int) * 2 % 256 = ((f 15 * 2 % 256 : Nat) : Int) := by omega
      by_cases hc : f 0 / 128 = 0
      · have ht : (((f 0 : Nat) : Int) / 128 == 1) = false := by rw [beq_eq_false_iff_ne]; omega
        have hY' : Holds16 (wr.setCell ⟨w.heap.size + 1 + 1, 15, none⟩ (.int .u8 ((f 15 * 2 % 256 : Nat) : Int))) (w.heap.size + 1 + 1) 29 (Gf.dbl f) := (hY.set 15 _).congr fun i hi => dk_end0 f hc i hi
        rw [← e15] at hY'
        have HY : Hid (Holds16 _ _ _ _) := hY'
        have HZ : Hid (Holds16 _ _ _ _) := hZ.other (w.heap.size + 1 + 1) 15 (.int .u8 (((f 15 : Nat) : Int) * 2 % 256)) (by omega)
        have HB : Hid (Below _ _ _) := hB.setCell (p := ⟨w.heap.size + 1 + 1, 15, none⟩) (by simp; omega) (.int .u8 (((f 15 : Nat) : Int) * 2 % 256))
        clear hY hZ hB hA hY' e15 hc
        go_wp2_with (first
          | (refine wpList_load_row rfl 29 _ rfl (w.heap.size + 1 + 1) rfl 29 _ (0, 0) _ HY.out Trym.underlying29 rfl (info29 _) ?_)
          | (refine wpList_store_row rfl 29 _ _ rfl (w.heap.size + 1) _ rfl rfl 29 _ HZ.out (info29 _) (by rw [bl_size, bl_size]) (bl_all _) ?_))
        exact bodyPost_ret (results_cell_row Trym.results34 _ _ (w.heap.size + 1) 29 _ (0, 0) _ rfl (HZ.out.setRow _) Trym.underlying29 rfl (info29 _)) rfl ⟨rfl, Below.setRow HB.out _ (by omega) _⟩
      · have ht : (((f 0 : Nat) : Int) / 128 == 1) = true := by rw [beq_iff_eq]; omega
        have hc1 : f 0 / 128 = 1 := by omega
        have e135 : bits .xor .u8 (((f 15 : Nat) : Int) * 2 % 256) 135 = (((f 15 * 2 % 256) ^^^ 135 : Nat) : Int) := by
          rw [e15]; exact u8_xor_nat _ 135 (by omega) (by omega)
        have hY' : Holds16 ((wr.setCell ⟨w.heap.size + 1 + 1, 15, none⟩ (.int .u8 ((f 15 * 2 % 256 : Nat) : Int))).setCell ⟨w.heap.size + 1 + 1, 15, none⟩ (.int .u8 (((f 15 * 2 % 256) ^^^ 135 : Nat) : Int))) (w.heap.size + 1 + 1) 29 (Gf.dbl f) :=
          ((hY.set 15 _).set 15 _).congr fun i hi => by
            rw [← dk_end1 f hc1 i hi]
            by_cases e : i = 15
            · rw [if_pos e, if_pos e]
            · rw [if_neg e, if_neg e, if_neg e]
        rw [← e15, ← e135] at hY'
        have HY : Hid (Holds16 _ _ _ _) := hY'
        have HZ : Hid (Holds16 _ _ _ _) := (hZ.other (w.heap.size + 1 + 1) 15 (.int .u8 (((f 15 : Nat) : Int) * 2 % 256)) (by omega)).other (w.heap.size + 1 + 1) 15 (.int .u8 (bits .xor .u8 (((f 15 : Nat) : Int) * 2 % 256) 135)) (by omega)
        have HB : Hid (Below _ _ _) := (hB.setCell (p := ⟨w.heap.size + 1 + 1, 15, none⟩) (by simp; omega) (.int .u8 (((f 15 : Nat) : Int) * 2 % 256))).setCell (p := ⟨w.heap.size + 1 + 1, 15, none⟩) (by simp; omega) (.int .u8 (bits .xor .u8 (((f 15 : Nat) : Int) * 2 % 256) 135))
        clear hY hZ hB hA hY' e15 e135 hc hc1
        go_wp2_with (first
          | (refine wpList_load_row rfl 29 _ rfl (w.heap.size + 1 + 1) rfl 29 _ (0, 0) _ HY.out Trym.underlying29 rfl (info29 _) ?_)
          | (refine wpList_store_row rfl 29 _ _ rfl (w.heap.size + 1) _ rfl rfl 29 _ HZ.out (info29 _) (by rw [bl_size, bl_size]) (bl_all _) ?_))
        exact bodyPost_ret (results_cell_row Trym.results34 _ _ (w.heap.size + 1) 29 _ (0, 0) _ rfl (HZ.out.setRow _) Trym.underlying29 rfl (info29 _)) rfl ⟨rfl, Below.setRow HB.out _ (by omega) _⟩

end Go.Proofs.Qxb6614255aMods
