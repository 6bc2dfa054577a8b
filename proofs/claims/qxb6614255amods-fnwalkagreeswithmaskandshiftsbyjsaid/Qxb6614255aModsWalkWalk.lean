import Derived.Test.Qxb6614255aModsKeyWalk
namespace Go.Proofs.Qxb6614255aMods
open Go.ChangeShapes Go.WideShapes Go.ChangeAt Go.RowKit

/-! ### the two structs in memory -/
def wCells (g : Nat) (jJ pI : Nat → Nat) (n : Int) : List Value := .pointer (some ⟨g, 0, none⟩) :: (bl jJ ++ (bl pI ++ [.int .i64 n]))
/-- block g of w holds the extracted key -/
def KeyAt (w : World) (g : Nat) (I J : Nat → Nat) (f : Nat → Nat → Nat) : Prop := w.heap[g]? = some (.cells (kCells I J f).toArray 59 (0, 0))
/-- block h of w holds the walk -/
def WalkAt (w : World) (h g : Nat) (jJ pI : Nat → Nat) (n : Int) : Prop := w.heap[h]? = some (.cells (wCells g jJ pI n).toArray 61 (0, 0))

theorem heap_lt {w : World} {b : Nat} {o : Obj} (h : w.heap[b]? = some o) : b < w.heap.size := by
  by_cases hlt : b < w.heap.size
  · exact hlt
  · rw [Array.getElem?_eq_none (by omega)] at h; cases h
theorem heap_after {w w1 : World} {b : Nat} {o : Obj} (hb : Below w.heap.size w w1) (h : w.heap[b]? = some o) : w1.heap[b]? = some o := by
  rw [hb.block b (heap_lt h), h]
theorem heap_alloc {w : World} {b : Nat} {o : Obj} (h : w.heap[b]? = some o) (x : Obj) : (w.alloc x).heap[b]? = some o := by
  rw [Below.heap_alloc w x b (heap_lt h), h]

/-- a part of a block that is known as a list -/
theorem range_part {w : World} {b : Nat} {t : TypeId} {fr : Nat × Nat} {pre mid post : List Value} {o : Nat} (h : w.heap[b]? = some (.cells (pre ++ (mid ++ post)).toArray t fr)) (ho : o = pre.length) : w.rangeAt b o mid := fun j v hv => by
  subst ho
  have hj : j < mid.length := (List.getElem?_eq_some_iff.1 hv).1
  rw [cell_of_row w b _ _ t fr h]
  simp only [List.getElem?_toArray]
  rw [List.getElem?_append_right (by omega), show pre.length + j - pre.length = j from by omega, List.getElem?_append_left hj, hv]

theorem KeyAt.rI {w : World} {g : Nat} {I J : Nat → Nat} {f : Nat → Nat → Nat} (h : KeyAt w g I J f) : w.rangeAt g 0 (bl I) := range_part (pre := []) h rfl
theorem KeyAt.rJ {w : World} {g : Nat} {I J : Nat → Nat} {f : Nat → Nat → Nat} (h : KeyAt w g I J f) : w.rangeAt g 16 (bl J) := range_part (pre := bl I) h (bl_len I).symm

theorem lCells_part (f : Nat → Nat → Nat) (n : Nat) (hn : n < 8) : ∃ pre post, lCells f = pre ++ (bl (f n) ++ post) ∧ pre.length = 16 * n := by
  unfold lCells
  have l := fun k => bl_len (f k)
  match n, hn with
  | 0, _ => exact ⟨[], _, rfl, rfl⟩
  | 1, _ => exact ⟨bl (f 0), _, rfl, by simp [l]⟩
  | 2, _ => exact ⟨bl (f 0) ++ bl (f 1), bl (f 3) ++ (bl (f 4) ++ (bl (f 5) ++ (bl (f 6) ++ bl (f 7)))), by simp only [List.append_assoc], by simp [l]⟩
  | 3, _ => exact ⟨bl (f 0) ++ (bl (f 1) ++ bl (f 2)), bl (f 4) ++ (bl (f 5) ++ (bl (f 6) ++ bl (f 7))), by simp only [List.append_assoc], by simp [l]⟩
  | 4, _ => exact ⟨bl (f 0) ++ (bl (f 1) ++ (bl (f 2) ++ bl (f 3))), bl (f 5) ++ (bl (f 6) ++ bl (f 7)), by simp only [List.append_assoc], by simp [l]⟩
  | 5, _ => exact ⟨bl (f 0) ++ (bl (f 1) ++ (bl (f 2) ++ (bl (f 3) ++ bl (f 4)))), bl (f 6) ++ bl (f 7), by simp only [List.append_assoc], by simp [l]⟩
  | 6, _ => exact ⟨bl (f 0) ++ (bl (f 1) ++ (bl (f 2) ++ (bl (f 3) ++ (bl (f 4) ++ bl (f 5))))), bl (f 7), by simp only [List.append_assoc], by simp [l]⟩
  | 7, _ => exact ⟨bl (f 0) ++ (bl (f 1) ++ (bl (f 2) ++ (bl (f 3) ++ (bl (f 4) ++ (bl (f 5) ++ bl (f 6)))))), [], by simp only [List.append_assoc, List.append_nil], by simp [l]⟩

theorem KeyAt.rL {w : World} {g : Nat} {I J : Nat → Nat} {f : Nat → Nat → Nat} (h : KeyAt w g I J f) (n : Nat) (hn : n < 8) : w.rangeAt g (32 + n * 16) (bl (f n)) := by
  obtain ⟨pre, post, e, hl⟩ := lCells_part f n hn
  unfold KeyAt kCells at h
  rw [e] at h
  rw [show bl I ++ (bl J ++ (pre ++ (bl (f n) ++ post))) = (bl I ++ (bl J ++ pre)) ++ (bl (f n) ++ post) from by simp only [List.append_assoc]] at h
  exact range_part h (by simp [bl_len, hl]; omega)

theorem WalkAt.rJ {w : World} {h g : Nat} {jJ pI : Nat → Nat} {n : Int} (H : WalkAt w h g jJ pI n) : w.rangeAt h 1 (bl jJ) := range_part (pre := [.pointer (some ⟨g, 0, none⟩)]) H rfl
theorem WalkAt.rP {w : World} {h g : Nat} {jJ pI : Nat → Nat} {n : Int} (H : WalkAt w h g jJ pI n) : w.rangeAt h 17 (bl pI) :=
  range_part (pre := .pointer (some ⟨g, 0, none⟩) :: bl jJ) (post := [.int .i64 n]) H (by simp [bl_len])
theorem WalkAt.cK {w : World} {h g : Nat} {jJ pI : Nat → Nat} {n : Int} (H : WalkAt w h g jJ pI n) : w.cell? ⟨h, 0, none⟩ = some (.pointer (some ⟨g, 0, none⟩)) := by
  rw [cell_of_row w h _ _ 61 _ H]; rfl
theorem WalkAt.cN {w : World} {h g : Nat} {jJ pI : Nat → Nat} {n : Int} (H : WalkAt w h g jJ pI n) : w.cell? ⟨h, 33, none⟩ = some (.int .i64 n) := by
  rw [cell_of_row w h _ _ 61 _ H]
  simp [wCells, bl_len]

theorem built61 (g : Nat) (jJ pI : Nat → Nat) : Trym.prog.built 61 [(0, .pointer (some ⟨g, 0, none⟩)), (1, .agg (bl jJ).toArray), (2, .agg (bl pI).toArray)] = some (wCells g jJ pI 0).toArray := by
  kernel_rfl
theorem field59_0 (g : Nat) (w : World) : (Instr.fieldAt 59 (.pointer (some ⟨g, 0, none⟩)) 0).run Trym.prog w = .ok (.pointer (some ⟨g, 0, none⟩)) w := by kernel_rfl
theorem field59_1 (g : Nat) (w : World) : (Instr.fieldAt 59 (.pointer (some ⟨g, 0, none⟩)) 1).run Trym.prog w = .ok (.pointer (some ⟨g, 16, none⟩)) w := by kernel_rfl

def zW : List Value := .pointer none :: (bl Gf.zero ++ (bl Gf.zero ++ [.int .i64 0]))
theorem zW_size : zW.toArray.size = 34 := by simp [zW, bl_len]
theorem info55l (f : Nat → Nat) : (Trym.prog.info? 55).map (·.size) = some (bl f).length := by
  rw [bl_len]; kernel_rfl
theorem wCells_len (g : Nat) (jJ pI : Nat → Nat) (n : Int) : (wCells g jJ pI n).length = 34 := by simp [wCells, bl_len]
theorem info61 (g : Nat) (jJ pI : Nat → Nat) (n : Int) : (Trym.prog.info? 61).map (·.size) = some (wCells g jJ pI n).toArray.size := by
  rw [List.size_toArray, wCells_len]; kernel_rfl
theorem wCells_all (g : Nat) (jJ pI : Nat → Nat) (n : Int) : (wCells g jJ pI n).toArray.all (·.oneCell') = true := by
  refine all_oneCell_toArray fun v hv => ?_
  simp only [wCells, List.mem_cons, List.mem_append, List.not_mem_nil, or_false] at hv
  rcases hv with rfl | hv | hv | rfl
  · rfl
  · exact bl_one _ v hv
  · exact bl_one _ v hv
  · rfl

set_option maxHeartbeats 4000000 in
/-- (*extractedKey).walk -/
theorem walk_calls (g : Nat) (j : Int) (n : Nat) (I J : Nat → Nat) (f : Nat → Nat → Nat) (w : World) (hn : n < 18446744073709551616) (hj : j % 18446744073709551616 = (n : Int)) (hI : Gf.Byte I) (hJ : Gf.Byte J) (hk : KeyAt w g I J f) :
    Calls Trym.prog 33 #[.pointer (some ⟨g, 0, none⟩), .int .i64 j] w fun e w' => e = .returned (.agg (wCells g (Gf.mul n J) (Gf.dbl I) 0).toArray) ∧ Below w.heap.size w w' := by
  have hlt := heap_lt hk
  have Hj : Hid (j % 18446744073709551616 = (n : Int)) := hj
  clear hj
  go_enter Trym.func33, Trym.ntmps33
  go_wp2_with fail
  change Code.wp Trym.prog _ _ _ (w.alloc (.cells zW.toArray 61))
  obtain ⟨W, hW⟩ : ∃ W, W = w.alloc (.cells zW.toArray 61) := ⟨_, rfl⟩
  have hzW : W.heap[w.heap.size]? = some (.cells zW.toArray 61 (0, 0)) := by rw [hW]; exact heap_alloc_new w _
  have hkW : KeyAt W g I J f := by rw [hW]; exact heap_alloc hk _
  have hBW : Below w.heap.size w W := by rw [hW]; exact (Below.refl _ _).alloc (Nat.le_refl _) _
  rw [← hW]
  clear hW
  refine wp_region_noPanic ?_
  refine wp_region_held_drew (S := fun w' => KeyAt w' g I J f) (by kernel_rfl) hkW (fun hHeld => ?_)
  refine Held.take (i := 0) (some 5) (.pointer (some ⟨g, 0, none⟩)) rfl rfl (by kernel_rfl) (by kernel_rfl) (by kernel_rfl) (fun _ _ _ h => h) (Held.yields_move (by rfl) (.tmp 0) (.inl rfl)) hHeld ?_
  simp only [Act.put, List.setIfInBounds_toArray, List.set_cons_zero, List.set_cons_succ]
  refine Held.take (i := 1) (some 6) (.int .i64 j) rfl rfl (by kernel_rfl) (by kernel_rfl) (by kernel_rfl) (fun _ _ _ h => h) (Held.yields_move (by rfl) (.tmp 1) (.inl rfl)) hHeld ?_
  simp only [Act.put, List.setIfInBounds_toArray, List.set_cons_zero, List.set_cons_succ]
  refine Held.take (i := 2) (some 7) (.pointer (some ⟨g, 0, none⟩)) rfl rfl (by kernel_rfl) (by kernel_rfl) (by kernel_rfl) (fun _ _ _ h => h) (Held.yields_move (by rfl) (.tmp 0) (.inl rfl)) hHeld ?_
  simp only [Act.put, List.setIfInBounds_toArray, List.set_cons_zero, List.set_cons_succ]
  refine Held.take (i := 3) (some 8) (.pointer (some ⟨g, 0, none⟩)) rfl rfl (by kernel_rfl) (by kernel_rfl) (by kernel_rfl) (fun _ _ _ h => h) (Held.yields_nilCheck (by rfl) _ rfl _ rfl) hHeld ?_
  simp only [Act.put, List.setIfInBounds_toArray, List.set_cons_zero, List.set_cons_succ]
  refine Held.take (i := 4) (some 9) (.pointer (some ⟨g, 16, none⟩)) rfl rfl (by kernel_rfl) (by kernel_rfl) (by kernel_rfl) (fun _ _ _ h => h) (Held.yields_fieldAddr (by rfl) _ _ _ rfl _ _ rfl (field59_1 g)) hHeld ?_
  simp only [Act.put, List.setIfInBounds_toArray, List.set_cons_zero, List.set_cons_succ]
  refine Held.take (i := 5) (some 10) (.agg (bl J).toArray) rfl rfl (by kernel_rfl) (by kernel_rfl) (by kernel_rfl) (fun _ _ _ h => h) (Held.yields_load (by rfl) _ _ rfl _ _ rfl (bl J) _ (fun _ h => KeyAt.rJ h) Trym.underlying55 rfl (info55l J)) hHeld ?_
  simp only [Act.put, List.setIfInBounds_toArray, List.set_cons_zero, List.set_cons_succ]
  refine Held.take (i := 7) (some 12) (.pointer (some ⟨g, 0, none⟩)) rfl rfl (by kernel_rfl) (by kernel_rfl) (by kernel_rfl) (fun _ _ _ h => h) (Held.yields_move (by rfl) (.tmp 0) (.inl rfl)) hHeld ?_
  simp only [Act.put, List.setIfInBounds_toArray, List.set_cons_zero, List.set_cons_succ]
  refine Held.take (i := 8) (some 13) (.pointer (some ⟨g, 0, none⟩)) rfl rfl (by kernel_rfl) (by kernel_rfl) (by kernel_rfl) (fun _ _ _ h => h) (Held.yields_nilCheck (by rfl) _ rfl _ rfl) hHeld ?_
  simp only [Act.put, List.setIfInBounds_toArray, List.set_cons_zero, List.set_cons_succ]
  refine Held.take (i := 9) (some 14) (.pointer (some ⟨g, 0, none⟩)) rfl rfl (by kernel_rfl) (by kernel_rfl) (by kernel_rfl) (fun _ _ _ h => h) (Held.yields_fieldAddr (by rfl) _ _ _ rfl _ _ rfl (field59_0 g)) hHeld ?_
  simp only [Act.put, List.setIfInBounds_toArray, List.set_cons_zero, List.set_cons_succ]
  refine Held.take (i := 10) (some 15) (.agg (bl I).toArray) rfl rfl (by kernel_rfl) (by kernel_rfl) (by kernel_rfl) (fun _ _ _ h => h) (Held.yields_load (by rfl) _ _ rfl _ _ rfl (bl I) _ (fun _ h => KeyAt.rI h) Trym.underlying55 rfl (info55l I)) hHeld ?_
  simp only [Act.put, List.setIfInBounds_toArray, List.set_cons_zero, List.set_cons_succ]
  refine Held.ready_call (i := 6) (some 11) 32 _ _ #[.int .i64 j, .agg (bl J).toArray] rfl rfl rfl rfl (by kernel_rfl) (by simp [Act.eval]) Trym.call32 ?_
  refine (times_calls j n J _ hn Hj.out hJ).mono ?_
  rintro e w1 ⟨rfl, hb1⟩
  have h1 : KeyAt w1 g I J f := heap_after hb1 hHeld
  have z1 : w1.heap[w.heap.size]? = some (.cells zW.toArray 61 (0, 0)) := heap_after hb1 hzW
  have hB1 := Below.on hBW.drew (Nat.le_refl _) hb1
  refine ⟨_, rfl, h1, ?_⟩
  clear hb1 hHeld hBW
  simp only [Act.put, List.setIfInBounds_toArray, List.set_cons_zero, List.set_cons_succ]
  refine Held.ready_call (i := 11) (some 16) 45 _ _ #[.agg (bl I).toArray] rfl rfl rfl rfl (by kernel_rfl) (by simp [Act.eval]) Trym.call45 ?_
  refine (double_calls I _ hI).mono ?_
  rintro e w2 ⟨rfl, hb2⟩
  have h2 : KeyAt w2 g I J f := heap_after hb2 h1
  have z2 : w2.heap[w.heap.size]? = some (.cells zW.toArray 61 (0, 0)) := heap_after hb2 z1
  have hB2 := Below.on hB1 (Nat.le_refl _) hb2
  refine ⟨_, rfl, h2, ?_⟩
  clear hb2 h1 hB1
  simp only [Act.put, List.setIfInBounds_toArray, List.set_cons_zero, List.set_cons_succ]
  refine Held.take (i := 12) (some 17) (.agg (wCells g (Gf.mul n J) (Gf.dbl I) 0).toArray) rfl rfl (by kernel_rfl) (by kernel_rfl) (by kernel_rfl) (fun _ _ _ h => h) (Held.yields_build (by rfl) _ _ rfl _ (by simp [Act.eval]) _ (built61 g (Gf.mul n J) (Gf.dbl I))) h2 ?_
  simp only [Act.put, List.setIfInBounds_toArray, List.set_cons_zero, List.set_cons_succ]
  refine Held.ready_store (i := 13) 61 _ _ w.heap.size _ _ 61 rfl rfl rfl rfl (by kernel_rfl) rfl rfl z2 (info61 _ _ _ _) (by rw [zW_size, List.size_toArray, wCells_len]) (wCells_all _ _ _ _) ?_ ?_
  · show KeyAt _ _ _ _ _
    unfold KeyAt
    rw [setRow_other _ _ _ _ (by omega)]
    exact h2
  refine wpAnyH_done (by kernel_rfl) ?_ _
  refine NoPanic.normal ?_
  go_wp2_with fail
  exact bodyPost_ret (results_cell_row Trym.results33 _ _ w.heap.size 61 _ (0, 0) _ rfl (setRow_heap _ _ _ _ 61 _ z2) Trym.underlying61 rfl (info61 _ _ _ _)) rfl ⟨rfl, Below.setRow hB2 _ (Nat.le_refl _) _⟩

set_option maxHeartbeats 1000000 in
theorem zzwalk_calls (g : Nat) (j : Int) (n : Nat) (I J : Nat → Nat) (f : Nat → Nat → Nat) (w : World) (hn : n < 18446744073709551616) (hj : j % 18446744073709551616 = (n : Int)) (hI : Gf.Byte I) (hJ : Gf.Byte J) (hk : KeyAt w g I J f) :
    Calls Trym.prog 16 #[.pointer (some ⟨g, 0, none⟩), .int .i64 j] w fun e w' => ∃ h, w.heap.size ≤ h ∧ e = .returned (.pointer (some ⟨h, 0, none⟩)) ∧ WalkAt w' h g (Gf.mul n J) (Gf.dbl I) 0 ∧ Below w.heap.size w w' := by
  have Hj : Hid (j % 18446744073709551616 = (n : Int)) := hj
  clear hj
  go_enter Trym.func16, Trym.ntmps16
  go_wp2_with fail
  refine (walk_calls g j n I J f _ hn Hj.out hI hJ hk).mono ?_
  rintro e w1 ⟨rfl, hb1⟩
  have hz : (w1.alloc (.cells zW.toArray 61)).heap[w1.heap.size]? = some (.cells zW.toArray 61 (0, 0)) := heap_alloc_new w1 _
  go_wp2_with (refine wpList_store_row rfl 61 _ _ rfl w1.heap.size _ rfl rfl 61 _ hz (info61 _ _ _ _) (by rw [zW_size, List.size_toArray, wCells_len]) (wCells_all _ _ _ _) ?_)
  go_ret
  exact ⟨w1.heap.size, hb1.size, rfl, setRow_heap _ _ _ _ 61 _ hz, Below.setRow (hb1.alloc hb1.size _) _ hb1.size _⟩

end Go.Proofs.Qxb6614255aMods
