import Derived.Test.Qxb6614255aModsMaskWalk
import Derived.Stop.BytesEq
import Derived.Deep.DeepCutAuto
namespace Go.Proofs.Qxb6614255aMods
open Go.ChangeShapes Go.WideShapes Go.ChangeAt Go.RowKit

theorem bl_bytes (f : Nat → Nat) (hf : Gf.Byte f) : bl f = ((List.range 16).map fun i => UInt8.ofNat (f i)).map Extern.Stop.cell := by
  unfold bl
  rw [List.map_map]
  refine List.map_congr_left fun i _ => ?_
  have := hf i
  simp only [Function.comp_def, Extern.Stop.cell, UInt8.toNat_ofNat']
  rw [Nat.mod_eq_of_lt (by omega)]
  rfl
theorem size5 (w : World) : (sizeOf 5).run Trym.prog w = .ok 1 w := by kernel_rfl
theorem neq29 (f : Nat → Nat) (hf : Gf.Byte f) (x y : Operand) (w : World) : (do eqGuard .neq 29 x y (.agg (bl f).toArray) (.agg (bl f).toArray); binOp .neq 29 (.agg (bl f).toArray) (.agg (bl f).toArray) : Sem Value).run Trym.prog w = .ok (.bool false) w := by
  rw [Sem.run_bind, run_eqGuard_agg w .neq 29 x y _ _ (by kernel_rfl), Result.andThen_ok, run_neq_struct, bl_bytes f hf, run_equalIn_bytes w 9998 29 5 16 Trym.underlying29 Trym.underlying5 size5 _ _ (by simp) (by simp)]
  simp

theorem alloc29 (w : World) : (Instr.alloc 29 true (.tuple #[])).run Trym.prog w = .ok (.pointer (some ⟨w.heap.size, 0, none⟩)) (w.alloc (.cells (bl Gf.zero).toArray 29)) := by kernel_rfl

end Go.Proofs.Qxb6614255aMods
