import Derived.Test.Qxb6614255aModsBlk
import Derived.Test.Qxb6614255aModsGf
namespace Go.Proofs.Qxb6614255aMods
open Go.ChangeShapes Go.WideShapes Go.ChangeAt Go.RowKit

def xk (f g h : Nat → Nat) (k : Nat) (i : Nat) : Nat := if i < k then f i ^^^ g i else h i
theorem xk_self (f g h : Nat → Nat) (k : Nat) : xk f g h k k = h k := by simp [xk]
theorem xk_succ (f g h : Nat → Nat) (k i : Nat) : (if i = k then f k ^^^ g k else xk f g h k i) = xk f g h (k + 1) i := by
  simp only [xk]
  by_cases e : i = k
  · subst e; simp
  · rw [if_neg e]
    by_cases h : i < k
    · rw [if_pos h, if_pos (by omega)]
    · rw [if_neg h, if_neg (by omega)]
theorem xk_zero (f g h : Nat → Nat) : xk f g h 0 = h := by funext i; simp [xk]
theorem xk_all (f g h : Nat → Nat) (k i : Nat) (hi : i < k) : xk f g h k i = Gf.fx f g i := by simp [xk, hi, Gf.fx]

set_option maxHeartbeats 1000000 in
/-- aez.xor -/
theorem xor_calls (f g : Nat → Nat) (w : World) (hf : Gf.Byte f) (hg : Gf.Byte g) :
    Calls Trym.prog 46 #[.agg (bl f).toArray, .agg (bl g).toArray] w fun e w' => e = .returned (.agg (bl (Gf.fx f g)).toArray) ∧ Below w.heap.size w w' := by
  go_enter Trym.func46, Trym.ntmps46
  go_wp2_with fail
  go_loopw [6] (fun i wr => ∃ k : Nat, k ≤ 16 ∧ i = .int .i64 k ∧ Below w.heap.size w wr ∧ Holds16 wr w.heap.size 55 (xk f g f k) ∧ Holds16 wr (w.heap.size + 1) 55 g ∧ Holds16 wr (w.heap.size + 1 + 1) 55 fun _ => 0) (fun i _ => 16 - (intOf i).toNat)
  case atStart =>
    refine ⟨0, by omega, rfl, ?_, ?_, ?_, ?_⟩
    · exact (((Below.refl _ _).alloc (Nat.le_refl _) _).alloc (by simp) _).alloc (by simp; omega) _
    · rw [xk_zero]
      exact ((Holds16.new w 55 f).alloc _).alloc _
    · have := Holds16.new (w.alloc (.cells (bl f).toArray 55)) 55 g
      simp at this
      exact this.alloc _
    · have := Holds16.new ((w.alloc (.cells (bl f).toArray 55)).alloc (.cells (bl g).toArray 55)) 55 fun _ => 0
      simp at this
      exact this
  case round =>
    obtain ⟨k, hk, rfl, hB, hA, hG, hZ⟩ := hrel
    by_cases hlt : k < 16
    · have k1 : (0 : Int) ≤ (k : Int) := by omega
      have k2 : (k : Int) < 16 := by omega
      have c1 := hA.cell k hlt
      have c2 := hG.cell k hlt
      have c3 := hA.frozen k
      rw [xk_self] at c1
      go_wp2_with fail
      go_region
      rw [u8_xor_nat _ _ (hf k) (hg k)]
      go_wp2_with fail
      go_roundw
      case rel =>
        refine ⟨k + 1, by omega, by go_num, (hB.setCell (p := ⟨w.heap.size, k, none⟩) (Nat.le_refl _) _).drew, ?_, ?_, ?_⟩
        · exact ((hA.set k (f k ^^^ g k)).drew).congr fun i _ => xk_succ f g f k i
        · exact (hG.other _ _ _ (by omega)).drew
        · exact (hZ.other _ _ _ (by omega)).drew
      case measure => simp [intOf]; omega
    · have k2 : ¬ (k : Int) < 16 := by omega
      have hF : Holds16 wr w.heap.size 55 (Gf.fx f g) := hA.congr fun i hi => xk_all f g f k i (by omega)
      clear hA
      go_wp2_with (first
        | (refine wpList_load_row rfl 55 _ rfl w.heap.size rfl 55 _ (0, 0) _ hF Trym.underlying55 rfl (info55 _) ?_)
        | (refine wpList_store_row rfl 55 _ _ rfl (w.heap.size + 1 + 1) _ rfl rfl 55 _ hZ (info55 _) (by rw [bl_size, bl_size]) (bl_all _) ?_))
      exact bodyPost_ret (results_cell_row Trym.results46 _ _ (w.heap.size + 1 + 1) 55 _ (0, 0) _ rfl (hZ.setRow _) Trym.underlying55 rfl (info55 _)) rfl ⟨rfl, Below.setRow hB _ (by omega) _⟩

set_option maxHeartbeats 1000000 in
/-- the law's own xorB -/
theorem xorB_calls (f g : Nat → Nat) (w : World) (hf : Gf.Byte f) (hg : Gf.Byte g) :
    Calls Trym.prog 18 #[.agg (bl f).toArray, .agg (bl g).toArray] w fun e w' => e = .returned (.agg (bl (Gf.fx f g)).toArray) ∧ Below w.heap.size w w' := by
  go_enter Trym.func18, Trym.ntmps18
  go_wp2_with fail
  go_loopw [6] (fun i wr => ∃ k : Nat, k ≤ 16 ∧ i = .int .i64 k ∧ Below w.heap.size w wr ∧ Holds16 wr w.heap.size 29 f ∧ Holds16 wr (w.heap.size + 1) 29 g ∧ Holds16 wr (w.heap.size + 1 + 1) 29 (fun _ => 0) ∧ Holds16 wr (w.heap.size + 1 + 1 + 1) 29 (xk f g (fun _ => 0) k)) (fun i _ => 16 - (intOf i).toNat)
  case atStart =>
    refine ⟨0, by omega, rfl, ?_, ?_, ?_, ?_, ?_⟩
    · exact ((((Below.refl _ _).alloc (Nat.le_refl _) _).alloc (by simp) _).alloc (by simp; omega) _).alloc (by simp; omega) _
    · exact (((Holds16.new w 29 f).alloc _).alloc _).alloc _
    · have := Holds16.new (w.alloc (.cells (bl f).toArray 29)) 29 g
      simp at this
      exact (this.alloc _).alloc _
    · have := Holds16.new ((w.alloc (.cells (bl f).toArray 29)).alloc (.cells (bl g).toArray 29)) 29 fun _ => 0
      simp at this
      exact this.alloc _
    · rw [xk_zero]
      have := Holds16.new (((w.alloc (.cells (bl f).toArray 29)).alloc (.cells (bl g).toArray 29)).alloc (.cells (bl fun _ => 0).toArray 29)) 29 fun _ => 0
      simp at this
      exact this
  case round =>
    obtain ⟨k, hk, rfl, hB, hA, hG, hZ, hC⟩ := hrel
    by_cases hlt : k < 16
    · have k1 : (0 : Int) ≤ (k : Int) := by omega
      have k2 : (k : Int) < 16 := by omega
      have c1 := hA.cell k hlt
      have c2 := hG.cell k hlt
      have c4 := hC.cell k hlt
      have c3 := hC.frozen k
      go_wp2_with fail
      go_region
      rw [u8_xor_nat _ _ (hf k) (hg k)]
      go_wp2_with fail
      go_roundw
      case rel =>
        refine ⟨k + 1, by omega, by go_num, (hB.setCell (p := ⟨w.heap.size + 1 + 1 + 1, k, none⟩) (by simp; omega) _).drew, ?_, ?_, ?_, ?_⟩
        · exact (hA.other _ _ _ (by omega)).drew
        · exact (hG.other _ _ _ (by omega)).drew
        · exact (hZ.other _ _ _ (by omega)).drew
        · exact ((hC.set k (f k ^^^ g k)).drew).congr fun i _ => xk_succ f g _ k i
      case measure => simp [intOf]; omega
    · have k2 : ¬ (k : Int) < 16 := by omega
      have hF : Holds16 wr (w.heap.size + 1 + 1 + 1) 29 (Gf.fx f g) := hC.congr fun i hi => xk_all f g _ k i (by omega)
      clear hC
      go_wp2_with (first
        | (refine wpList_load_row rfl 29 _ rfl (w.heap.size + 1 + 1 + 1) rfl 29 _ (0, 0) _ hF Trym.underlying29 rfl (info29 _) ?_)
        | (refine wpList_store_row rfl 29 _ _ rfl (w.heap.size + 1 + 1) _ rfl rfl 29 _ hZ (info29 _) (by rw [bl_size, bl_size]) (bl_all _) ?_))
      exact bodyPost_ret (results_cell_row Trym.results18 _ _ (w.heap.size + 1 + 1) 29 _ (0, 0) _ rfl (hZ.setRow _) Trym.underlying29 rfl (info29 _)) rfl ⟨rfl, Below.setRow hB _ (by omega) _⟩

end Go.Proofs.Qxb6614255aMods
