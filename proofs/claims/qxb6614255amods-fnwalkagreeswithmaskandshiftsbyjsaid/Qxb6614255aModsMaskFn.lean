import Derived.Test.Qxb6614255aModsEqWalk
namespace Go.Proofs.Qxb6614255aMods
open Go.ChangeShapes Go.WideShapes Go.ChangeAt Go.RowKit

set_option maxHeartbeats 4000000 in
/-- (*extractedKey).mask -/
theorem mask_calls (g i : Nat) (j : Int) (n : Nat) (I J : Nat → Nat) (f : Nat → Nat → Nat) (w : World) (hi : i ≤ 100000) (hn : n < 18446744073709551616) (hj : j % 18446744073709551616 = (n : Int)) (hI : Gf.Byte I) (hJ : Gf.Byte J) (hf : ∀ m, Gf.Byte (f m)) (hk : KeyAt w g I J f) :
    Calls Trym.prog 36 #[.pointer (some ⟨g, 0, none⟩), .int .i64 j, .int .i64 (i : Int)] w fun e w' => e = .returned (.agg (bl (Gf.fx (Gf.fx (Gf.mul n J) (Gf.dbls ((i + 7) / 8) I)) (f (i % 8)))).toArray) ∧ Below w.heap.size w w' := by
  have hlt := heap_lt hk
  have Hj : Hid (j % 18446744073709551616 = (n : Int)) := hj
  clear hj
  have i0 : (0 : Int) ≤ (i : Int) := by omega
  have i1 : (i : Int) ≤ 100000 := by omega
  have r0 : World.rangeAt (w.alloc (.cells (bl Gf.zero).toArray 55)) g 0 (bl I) := KeyAt.rI (heap_alloc hk _)
  have z1 : Holds16 ((w.alloc (.cells (bl Gf.zero).toArray 55)).alloc (.cells (bl Gf.zero).toArray 55)) (w.heap.size + 1) 55 Gf.zero := by
    have := Holds16.new (w.alloc (.cells (bl Gf.zero).toArray 55)) 55 Gf.zero
    simp at this
    exact this
  have hK0 : KeyAt (((w.alloc (.cells (bl Gf.zero).toArray 55)).alloc (.cells (bl Gf.zero).toArray 55)).setRow (w.heap.size + 1) (bl I).toArray) g I J f := (setRow_other _ _ g _ (by omega)).trans (heap_alloc (heap_alloc hk _) _)
  have hZ0 : Holds16 (((w.alloc (.cells (bl Gf.zero).toArray 55)).alloc (.cells (bl Gf.zero).toArray 55)).setRow (w.heap.size + 1) (bl I).toArray) w.heap.size 55 Gf.zero := ((Holds16.new w 55 Gf.zero).alloc _).otherRow _ _ (by omega)
  have hP0 : Holds16 (((w.alloc (.cells (bl Gf.zero).toArray 55)).alloc (.cells (bl Gf.zero).toArray 55)).setRow (w.heap.size + 1) (bl I).toArray) (w.heap.size + 1) 55 I := z1.setRow I
  have hB0 : Below w.heap.size w (((w.alloc (.cells (bl Gf.zero).toArray 55)).alloc (.cells (bl Gf.zero).toArray 55)).setRow (w.heap.size + 1) (bl I).toArray) := Below.setRow (((Below.refl _ _).alloc (Nat.le_refl _) _).alloc (by simp) _) _ (by omega) _
  go_enter Trym.func36, Trym.ntmps36
  go_wp2_with (first
    | (refine wpList_load_mid rfl 55 _ rfl g 0 rfl (bl I) _ r0 Trym.underlying55 rfl (info55l I) ?_)
    | (refine wpList_store_row rfl 55 _ _ rfl (w.heap.size + 1) _ rfl rfl 55 _ z1 (info55 _) (by rw [bl_size, bl_size]) (bl_all _) ?_))
  clear r0 z1 hk
  go_loopw [15] (fun t wr => ∃ k : Nat, k ≤ (i + 7) / 8 ∧ t = .int .i64 k ∧ Below w.heap.size w wr ∧ KeyAt wr g I J f ∧ Holds16 wr w.heap.size 55 Gf.zero ∧ Holds16 wr (w.heap.size + 1) 55 (Gf.dbls k I)) (fun t _ => (i + 7) / 8 - (intOf t).toNat)
  case atStart => exact ⟨0, by omega, rfl, hB0, hK0, hZ0, hP0⟩
  case round =>
    obtain ⟨k, hk, rfl, hB, hK, hZ, hP⟩ := hrel
    clear hB0 hK0 hZ0 hP0
    have hb := Gf.byte_dbls hI k
    by_cases hlt2 : k < (i + 7) / 8
    · have ht : (k : Int) < ((i : Int) + 7) / 8 := by omega
      go_wp2_with (refine wpList_load_row rfl 55 _ rfl (w.heap.size + 1) rfl 55 _ (0, 0) _ hP Trym.underlying55 rfl (info55 _) ?_)
      refine (double_calls (Gf.dbls k I) _ hb).mono ?_
      rintro e w2 ⟨rfl, hb2⟩
      have hK3 : KeyAt w2 g I J f := heap_after hb2 hK
      have hZ3 := hZ.after hb2
      have hP3 := hP.after hb2
      have hB3 := Below.on hB (Nat.le_refl _) hb2
      clear hK hZ hP hB hb2
      go_wp2_with (refine wpList_store_row rfl 55 _ _ rfl (w.heap.size + 1) _ rfl rfl 55 _ hP3 (info55 _) (by rw [bl_size, bl_size]) (bl_all _) ?_)
      go_roundw
      case rel => exact ⟨k + 1, by omega, by go_num, Below.setRow hB3 _ (by omega) _, (setRow_other _ _ g _ (by omega)).trans hK3, hZ3.otherRow _ _ (by omega), hP3.setRow (Gf.dbl (Gf.dbls k I))⟩
      case measure => simp [intOf]; omega
    · have ht : ¬ (k : Int) < ((i : Int) + 7) / 8 := by omega
      obtain rfl : k = (i + 7) / 8 := by omega
      go_wp2_with fail
      refine wp_region_noPanic ?_
      refine wp_region_held_drew (S := fun x => KeyAt x g I J f ∧ Holds16 x (w.heap.size + 1) 55 (Gf.dbls ((i + 7) / 8) I)) (by kernel_rfl) ⟨hK, hP⟩ (fun hHeld => ?_)
      refine Held.take (i := 0) (some 20) (.int .i64 j) rfl rfl (by kernel_rfl) (by kernel_rfl) (by kernel_rfl) (fun _ _ _ h => h) (Held.yields_move (by rfl) (.tmp 1) (.inl rfl)) hHeld ?_
      simp only [Act.put, List.setIfInBounds_toArray, List.set_cons_zero, List.set_cons_succ]
      refine Held.take (i := 1) (some 21) (.pointer (some ⟨g, 0, none⟩)) rfl rfl (by kernel_rfl) (by kernel_rfl) (by kernel_rfl) (fun _ _ _ h => h) (Held.yields_move (by rfl) (.tmp 0) (.inl rfl)) hHeld ?_
      simp only [Act.put, List.setIfInBounds_toArray, List.set_cons_zero, List.set_cons_succ]
      refine Held.take (i := 2) (some 22) (.pointer (some ⟨g, 0, none⟩)) rfl rfl (by kernel_rfl) (by kernel_rfl) (by kernel_rfl) (fun _ _ _ h => h) (Held.yields_nilCheck (by rfl) _ rfl _ rfl) hHeld ?_
      simp only [Act.put, List.setIfInBounds_toArray, List.set_cons_zero, List.set_cons_succ]
      refine Held.take (i := 3) (some 23) (.pointer (some ⟨g, 16, none⟩)) rfl rfl (by kernel_rfl) (by kernel_rfl) (by kernel_rfl) (fun _ _ _ h => h) (Held.yields_fieldAddr (by rfl) _ _ _ rfl _ _ rfl (field59_1 g)) hHeld ?_
      simp only [Act.put, List.setIfInBounds_toArray, List.set_cons_zero, List.set_cons_succ]
      refine Held.take (i := 4) (some 24) (.agg (bl J).toArray) rfl rfl (by kernel_rfl) (by kernel_rfl) (by kernel_rfl) (fun _ _ _ h => h) (Held.yields_load (by rfl) _ _ rfl _ _ rfl (bl J) _ (fun _ h => h.1.rJ) Trym.underlying55 rfl (info55l _)) hHeld ?_
      simp only [Act.put, List.setIfInBounds_toArray, List.set_cons_zero, List.set_cons_succ]
      refine Held.take (i := 6) (some 26) (.agg (bl (Gf.dbls ((i + 7) / 8) I)).toArray) rfl rfl (by kernel_rfl) (by kernel_rfl) (by kernel_rfl) (fun _ _ _ h => h) (Held.yields_load (by rfl) _ _ rfl _ _ rfl (bl (Gf.dbls ((i + 7) / 8) I)) _ (fun _ h => h.2.range) Trym.underlying55 rfl (info55l _)) hHeld ?_
      simp only [Act.put, List.setIfInBounds_toArray, List.set_cons_zero, List.set_cons_succ]
      refine Held.take (i := 8) (some 28) (.pointer (some ⟨g, 0, none⟩)) rfl rfl (by kernel_rfl) (by kernel_rfl) (by kernel_rfl) (fun _ _ _ h => h) (Held.yields_move (by rfl) (.tmp 0) (.inl rfl)) hHeld ?_
      simp only [Act.put, List.setIfInBounds_toArray, List.set_cons_zero, List.set_cons_succ]
      refine Held.take (i := 9) (some 29) (.int .i64 (i : Int)) rfl rfl (by kernel_rfl) (by kernel_rfl) (by kernel_rfl) (fun _ _ _ h => h) (Held.yields_move (by rfl) (.tmp 2) (.inl rfl)) hHeld ?_
      simp only [Act.put, List.setIfInBounds_toArray, List.set_cons_zero, List.set_cons_succ]
      refine Held.take (i := 10) (some 30) (.int .i64 ((i % 8 : Nat) : Int)) rfl rfl (by kernel_rfl) (by kernel_rfl) (by kernel_rfl) (fun _ _ _ h => h) (Held.yields_binOp (by rfl) _ _ _ _ _ rfl _ _ _ rfl rfl (rem8 i _ _)) hHeld ?_
      simp only [Act.put, List.setIfInBounds_toArray, List.set_cons_zero, List.set_cons_succ]
      refine Held.take (i := 11) (some 31) (.pointer (some ⟨g, 0, none⟩)) rfl rfl (by kernel_rfl) (by kernel_rfl) (by kernel_rfl) (fun _ _ _ h => h) (Held.yields_nilCheck (by rfl) _ rfl _ rfl) hHeld ?_
      simp only [Act.put, List.setIfInBounds_toArray, List.set_cons_zero, List.set_cons_succ]
      refine Held.take (i := 12) (some 32) (.pointer (some ⟨g, 32, none⟩)) rfl rfl (by kernel_rfl) (by kernel_rfl) (by kernel_rfl) (fun _ _ _ h => h) (Held.yields_fieldAddr (by rfl) _ _ _ rfl _ _ rfl (field59_2 g)) hHeld ?_
      simp only [Act.put, List.setIfInBounds_toArray, List.set_cons_zero, List.set_cons_succ]
      refine Held.take (i := 13) (some 33) (.pointer (some ⟨g, 32 + i % 8 * 16, none⟩)) rfl rfl (by kernel_rfl) (by kernel_rfl) (by kernel_rfl) (fun _ _ _ h => h) (Held.yields_indexAddr (by rfl) _ _ _ rfl _ _ _ rfl rfl (index57 g _ (Nat.mod_lt _ (by omega)))) hHeld ?_
      simp only [Act.put, List.setIfInBounds_toArray, List.set_cons_zero, List.set_cons_succ]
      refine Held.take (i := 14) (some 34) (.agg (bl (f (i % 8))).toArray) rfl rfl (by kernel_rfl) (by kernel_rfl) (by kernel_rfl) (fun _ _ _ h => h) (Held.yields_load (by rfl) _ _ rfl _ _ rfl (bl (f (i % 8))) _ (fun _ h => h.1.rL _ (Nat.mod_lt _ (by omega))) Trym.underlying55 rfl (info55l _)) hHeld ?_
      simp only [Act.put, List.setIfInBounds_toArray, List.set_cons_zero, List.set_cons_succ]
      refine Held.ready_call (i := 5) (some 25) 32 _ _ #[.int .i64 j, .agg (bl J).toArray] rfl rfl rfl rfl (by kernel_rfl) (by simp [Act.eval]) Trym.call32 ?_
      refine (times_calls j n J _ hn Hj.out hJ).mono ?_
      rintro e x1 ⟨rfl, hb1⟩
      have y1 : KeyAt x1 g I J f ∧ Holds16 x1 (w.heap.size + 1) 55 (Gf.dbls ((i + 7) / 8) I) := ⟨heap_after hb1 hHeld.1, heap_after hb1 hHeld.2⟩
      have z1 : Holds16 x1 w.heap.size 55 Gf.zero := heap_after hb1 hZ
      have k1 := Below.on hB.drew (Nat.le_refl _) hb1
      refine ⟨_, rfl, y1, ?_⟩
      clear hb1
      simp only [Act.put, List.setIfInBounds_toArray, List.set_cons_zero, List.set_cons_succ]
      refine Held.ready_call (i := 7) (some 27) 46 _ _ #[.agg (bl (Gf.mul n J)).toArray, .agg (bl (Gf.dbls ((i + 7) / 8) I)).toArray] rfl rfl rfl rfl (by kernel_rfl) (by simp [Act.eval]) Trym.call46 ?_
      refine (xor_calls (Gf.mul n J) (Gf.dbls ((i + 7) / 8) I) _ (Gf.byte_mul hJ n) hb).mono ?_
      rintro e x2 ⟨rfl, hb2⟩
      have y2 : KeyAt x2 g I J f ∧ Holds16 x2 (w.heap.size + 1) 55 (Gf.dbls ((i + 7) / 8) I) := ⟨heap_after hb2 y1.1, heap_after hb2 y1.2⟩
      have z2 : Holds16 x2 w.heap.size 55 Gf.zero := heap_after hb2 z1
      have k2 := Below.on k1 (Nat.le_refl _) hb2
      refine ⟨_, rfl, y2, ?_⟩
      clear hb2
      simp only [Act.put, List.setIfInBounds_toArray, List.set_cons_zero, List.set_cons_succ]
      refine Held.ready_call (i := 15) (some 35) 46 _ _ #[.agg (bl (Gf.fx (Gf.mul n J) (Gf.dbls ((i + 7) / 8) I))).toArray, .agg (bl (f (i % 8))).toArray] rfl rfl rfl rfl (by kernel_rfl) (by simp [Act.eval]) Trym.call46 ?_
      refine (xor_calls (Gf.fx (Gf.mul n J) (Gf.dbls ((i + 7) / 8) I)) (f (i % 8)) _ (Gf.byte_fx (Gf.byte_mul hJ n) hb) (hf _)).mono ?_
      rintro e x3 ⟨rfl, hb3⟩
      have y3 : KeyAt x3 g I J f ∧ Holds16 x3 (w.heap.size + 1) 55 (Gf.dbls ((i + 7) / 8) I) := ⟨heap_after hb3 y2.1, heap_after hb3 y2.2⟩
      have z3 : Holds16 x3 w.heap.size 55 Gf.zero := heap_after hb3 z2
      have k3 := Below.on k2 (Nat.le_refl _) hb3
      refine ⟨_, rfl, y3, ?_⟩
      clear hb3
      simp only [Act.put, List.setIfInBounds_toArray, List.set_cons_zero, List.set_cons_succ]
      refine Held.ready_store (i := 16) 55 _ _ w.heap.size _ _ 55 rfl rfl rfl rfl (by kernel_rfl) rfl rfl z3 (info55 _) (by rw [bl_size, bl_size]) (bl_all _) ⟨(setRow_other _ _ g _ (by omega)).trans y3.1, y3.2.otherRow _ _ (by omega)⟩ ?_
      refine wpAnyH_done (by kernel_rfl) ?_ _
      refine NoPanic.normal ?_
      go_wp2_with fail
      exact bodyPost_ret (results_cell_row Trym.results36 _ _ w.heap.size 55 _ (0, 0) _ rfl (z3.setRow _) Trym.underlying55 rfl (info55 _)) rfl ⟨rfl, Below.setRow k3 _ (Nat.le_refl _) _⟩

set_option maxHeartbeats 1000000 in
theorem zzmask_calls (g i : Nat) (j : Int) (n : Nat) (I J : Nat → Nat) (f : Nat → Nat → Nat) (w : World) (hi : i ≤ 100000) (hn : n < 18446744073709551616) (hj : j % 18446744073709551616 = (n : Int)) (hI : Gf.Byte I) (hJ : Gf.Byte J) (hf : ∀ m, Gf.Byte (f m)) (hk : KeyAt w g I J f) :
    Calls Trym.prog 21 #[.pointer (some ⟨g, 0, none⟩), .int .i64 j, .int .i64 (i : Int)] w fun e w' => e = .returned (.agg (bl (Gf.fx (Gf.fx (Gf.mul n J) (Gf.dbls ((i + 7) / 8) I)) (f (i % 8)))).toArray) ∧ Below w.heap.size w w' := by
  have Hj : Hid (j % 18446744073709551616 = (n : Int)) := hj
  clear hj
  go_enter Trym.func21, Trym.ntmps21
  go_wp2_with fail
  refine (mask_calls g i j n I J f (w.alloc (.cells (bl Gf.zero).toArray 29)) hi hn Hj.out hI hJ hf (heap_alloc hk _)).mono ?_
  rintro e w1 ⟨rfl, hb1⟩
  have z1 : Holds16 w1 w.heap.size 29 Gf.zero := heap_after hb1 (Holds16.new w 29 Gf.zero)
  have hB1 := Below.on ((Below.refl w.heap.size w).alloc (Nat.le_refl _) _) (Nat.le_refl _) hb1
  clear hb1
  go_wp2_with (refine wpList_store_row rfl 29 _ _ rfl w.heap.size _ rfl rfl 29 _ z1 (info29 _) (by rw [bl_size, bl_size]) (bl_all _) ?_)
  exact bodyPost_ret (results_cell_row Trym.results21 _ _ w.heap.size 29 _ (0, 0) _ rfl (z1.setRow _) Trym.underlying29 rfl (info29 _)) rfl ⟨rfl, Below.setRow hB1 _ (Nat.le_refl _) _⟩

end Go.Proofs.Qxb6614255aMods
