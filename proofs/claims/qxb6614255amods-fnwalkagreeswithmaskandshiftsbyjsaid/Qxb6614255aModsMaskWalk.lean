import Derived.Test.Qxb6614255aModsNextWalk
namespace Go.Proofs.Qxb6614255aMods
open Go.ChangeShapes Go.WideShapes Go.ChangeAt Go.RowKit

theorem Kept.trans {h : Nat} {w W X : World} (K : Kept h w W) (L : Kept h W X) : Kept h w X :=
  ⟨L.os.trans K.os, L.tape.trans K.tape, L.output.trans K.output, Nat.le_trans K.size L.size, fun k hk hne => (L.block k (Nat.lt_of_lt_of_le hk K.size) hne).trans (K.block k hk hne)⟩

set_option maxHeartbeats 1000000 in
theorem zznext_calls (g h m : Nat) (jJ pI I J : Nat → Nat) (f : Nat → Nat → Nat) (w : World) (hm : m ≤ 100000) (hgh : g ≠ h) (hj : Gf.Byte jJ) (hp : Gf.Byte pI) (hf : ∀ n, Gf.Byte (f n)) (hk : KeyAt w g I J f) (hw : WalkAt w h g jJ pI (m : Int)) :
    Calls Trym.prog 20 #[.pointer (some ⟨h, 0, none⟩)] w fun e w' => e = .returned (.agg (bl (Gf.fx (Gf.fx jJ (nextP m pI)) (f ((m + 1) % 8)))).toArray) ∧ WalkAt w' h g jJ (nextP m pI) ((m + 1 : Nat) : Int) ∧ Kept h w w' := by
  have hlt := heap_lt hw
  go_enter Trym.func20, Trym.ntmps20
  go_wp2_with fail
  refine (next_calls g h m jJ pI I J f (w.alloc (.cells (bl Gf.zero).toArray 29)) hm hgh hj hp hf (heap_alloc hk _) (heap_alloc hw _)).mono ?_
  rintro e w1 ⟨rfl, hw1, hK1⟩
  have z0 : Holds16 (w.alloc (.cells (bl Gf.zero).toArray 29)) w.heap.size 29 Gf.zero := Holds16.new w 29 Gf.zero
  have z1 : Holds16 w1 w.heap.size 29 Gf.zero := hK1.holds z0 (by omega)
  have HK := Kept.trans (Kept.alloc (Kept.refl (h := h)) _) hK1
  clear hK1 z0
  go_wp2_with (refine wpList_store_row rfl 29 _ _ rfl w.heap.size _ rfl rfl 29 _ z1 (info29 _) (by rw [bl_size, bl_size]) (bl_all _) ?_)
  exact bodyPost_ret (results_cell_row Trym.results20 _ _ w.heap.size 29 _ (0, 0) _ rfl (z1.setRow _) Trym.underlying29 rfl (info29 _)) rfl ⟨rfl, (setRow_other w1 _ h _ (by omega)).trans hw1, HK.setRow _ _ (Nat.le_refl _)⟩

end Go.Proofs.Qxb6614255aMods
