import Derived.Test.Qxb6600147aModsDealWalk
import Derived.Laws.ResultCell
namespace Go.Proofs.Qxb6600147aMods
open Go.ChangeShapes Go.WideShapes Go.ChangeAt Go.RowKit

theorem results_cell_row_tmp {P : Program} {fn : Func} {p u : Tmp} {ty : TypeId} (h : fn.results = #[.cell p ty, .tmp u]) (tmps : Array Value) (w : World) (g : Nat) (t : TypeId) (cs : Array Value) (fr : Nat × Nat) (d : TypeDesc)
    (hp : tmps.getD p undef = .pointer (some ⟨g, 0, none⟩)) (hg : w.heap[g]? = some (.cells cs t fr))
    (hu : P.underlying ty = some d) (hd : (match d with | .struct _ | .array _ _ => true | _ => false) = true) (hi : (P.info? ty).map (·.size) = some cs.size) :
    (results fn tmps).run P w = .ok (.tuple #[.agg cs, tmps.getD u undef]) w := by
  rw [results_cell_tmp h tmps P w, hp]
  simp [asAddr, run_loadVar_row w g t ty cs fr d hg hu hd hi]

theorem field31_0 (g : Nat) (w : World) : (Instr.fieldAt 31 (.pointer (some ⟨g, 0, none⟩)) 0).run Trym.prog w = .ok (.pointer (some ⟨g, 0, none⟩)) w := by kernel_rfl
theorem field31_1 (g : Nat) (w : World) : (Instr.fieldAt 31 (.pointer (some ⟨g, 0, none⟩)) 1).run Trym.prog w = .ok (.pointer (some ⟨g, 19, none⟩)) w := by kernel_rfl
theorem load_int (p : Addr) (v : Value) (w : World) (h : w.cell? p = some v) : (Instr.loadAt 3 (.pointer (some p))).run Trym.prog w = .ok v w := by
  simp [go_sem, h]

set_option maxHeartbeats 4000000 in
theorem zzDealHand_calls (H Q n : Nat) (w : World) (hH : H < 18446744073709551616) (hQ : Q ≤ 9223372036854775807) (hn : n ≤ 19) (hnQ : n ≤ Q) :
    Calls Trym.prog 8 #[.int .u64 (H : Int), .int .i64 (Q : Int), .int .i64 (n : Int)] w fun e w' => e = .returned (.tuple #[.agg (hl (qf Q H n)).toArray, .int .i64 (n : Int)]) ∧ Below w.heap.size w w' := by
  go_enter Trym.func8, Trym.ntmps8
  go_wp2_with fail
  refine (dealHand_calls H Q n (w.alloc (.cells (hl z0).toArray 23)) hH hQ hn hnQ).mono ?_
  rintro e w1 ⟨rfl, hb1⟩
  have hD1 : HoldsD w1 w.heap.size z0 := heap_after hb1 (heap_new_at w _ _ rfl)
  have hB1 := below_on ((Below.refl w.heap.size w).alloc (Nat.le_refl _) _) (Nat.le_refl _) hb1
  clear hb1
  have hz : HoldsH (w1.alloc (.cells (hCells z0 0).toArray 31)) w1.heap.size z0 0 := heap_new_at _ _ _ rfl
  have hlt := heap_lt hD1
  have hH2 : HoldsH ((w1.alloc (.cells (hCells z0 0).toArray 31)).setRow w1.heap.size (hCells (qf Q H n) (n : Int)).toArray) w1.heap.size (qf Q H n) (n : Int) := setRow_heap _ _ _ _ 31 _ hz
  have hD2 : HoldsD ((w1.alloc (.cells (hCells z0 0).toArray 31)).setRow w1.heap.size (hCells (qf Q H n) (n : Int)).toArray) w.heap.size z0 := (setRow_other _ _ _ _ (by omega)).trans (heap_alloc hD1 _)
  have hB2 : Below w.heap.size w ((w1.alloc (.cells (hCells z0 0).toArray 31)).setRow w1.heap.size (hCells (qf Q H n) (n : Int)).toArray) := below_setRow' (hB1.alloc hB1.size _) _ hB1.size _
  clear hD1 hB1
  go_wp2_with (refine wpList_store_row rfl 31 _ _ rfl w1.heap.size _ rfl rfl 31 _ hz (info31 _ _) (by rw [hCells_size, hCells_size]) (hCells_all _ _) ?_)
  clear hz
  simp only [Act.put]
  change Code.wp Trym.prog _ _ _ ((w1.alloc (.cells (hCells z0 0).toArray 31)).setRow w1.heap.size (hCells (qf Q H n) (n : Int)).toArray)
  generalize (w1.alloc (.cells (hCells z0 0).toArray 31)).setRow w1.heap.size (hCells (qf Q H n) (n : Int)).toArray = X at *
  generalize w1.heap.size = b at *
  refine wp_region_noPanic ?_
  refine wp_region_held_drew (S := fun x => HoldsH x b (qf Q H n) (n : Int)) (by kernel_rfl) hH2 (fun hHeld => ?_)
  refine Held.take (i := 0) (some 13) (.pointer (some ⟨b, 0, none⟩)) rfl rfl (by kernel_rfl) (by kernel_rfl) (by kernel_rfl) (fun _ _ _ h => h) (Held.yields_fieldAddr (by rfl) _ _ _ rfl _ _ rfl (field31_0 b)) hHeld ?_
  simp only [Act.put, List.setIfInBounds_toArray, List.set_cons_zero, List.set_cons_succ]
  refine Held.take (i := 1) (some 14) (.agg (hl (qf Q H n)).toArray) rfl rfl (by kernel_rfl) (by kernel_rfl) (by kernel_rfl) (fun _ _ _ h => h) (Held.yields_load (by rfl) _ _ rfl _ _ rfl (hl (qf Q H n)) _ (fun _ h => HoldsH.range h) Trym.underlying23 rfl (info23l _)) hHeld ?_
  simp only [Act.put, List.setIfInBounds_toArray, List.set_cons_zero, List.set_cons_succ]
  refine Held.take (i := 2) (some 15) (.pointer (some ⟨b, 19, none⟩)) rfl rfl (by kernel_rfl) (by kernel_rfl) (by kernel_rfl) (fun _ _ _ h => h) (Held.yields_fieldAddr (by rfl) _ _ _ rfl _ _ rfl (field31_1 b)) hHeld ?_
  simp only [Act.put, List.setIfInBounds_toArray, List.set_cons_zero, List.set_cons_succ]
  refine Held.take (i := 3) (some 16) (.int .i64 (n : Int)) rfl rfl (by kernel_rfl) (by kernel_rfl) (by kernel_rfl) (fun _ _ _ h => h) (Held.yields_load1 (by rfl) _ _ rfl _ rfl _ (fun w h => load_int _ _ w (HoldsH.size h))) hHeld ?_
  simp only [Act.put, List.setIfInBounds_toArray, List.set_cons_zero, List.set_cons_succ]
  have hH3 : HoldsH (X.drew.setRow w.heap.size (hl (qf Q H n)).toArray) b (qf Q H n) (n : Int) := (setRow_other _ _ _ _ (by omega)).trans hH2
  refine Held.ready_store (i := 4) 23 _ _ w.heap.size _ _ 23 rfl rfl rfl rfl (by kernel_rfl) rfl rfl hD2 (info23 _) (by rw [hl_size, hl_size]) (hl_all _) hH3 ?_
  refine Held.take (i := 5) (some 7) (.int .i64 (n : Int)) rfl rfl (by kernel_rfl) (by kernel_rfl) (by kernel_rfl) (fun _ _ _ h => h) (Held.yields_move (by rfl) (.tmp 16) (.inr rfl)) hH3 ?_
  simp only [Act.put, List.setIfInBounds_toArray, List.set_cons_zero, List.set_cons_succ]
  refine wpAnyH_done (by kernel_rfl) ?_ _
  refine NoPanic.normal ?_
  go_wp2_with fail
  exact bodyPost_ret (results_cell_row_tmp Trym.results8 _ _ w.heap.size 23 _ (0, 0) _ rfl (setRow_heap _ _ _ _ 23 _ hD2) Trym.underlying23 rfl (info23 _)) rfl ⟨rfl, below_setRow' hB2.drew _ (Nat.le_refl _) _⟩

end Go.Proofs.Qxb6600147aMods
