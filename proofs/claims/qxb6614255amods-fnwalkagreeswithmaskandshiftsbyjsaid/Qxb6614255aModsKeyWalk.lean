import Derived.Test.Qxb6614255aModsTimesWalk
import Derived.Test.Qxb6614255aModsHeld
namespace Go.Proofs.Qxb6614255aMods
open Go.ChangeShapes Go.WideShapes Go.ChangeAt Go.RowKit

def lCells (f : Nat → Nat → Nat) : List Value := bl (f 0) ++ (bl (f 1) ++ (bl (f 2) ++ (bl (f 3) ++ (bl (f 4) ++ (bl (f 5) ++ (bl (f 6) ++ bl (f 7)))))))
def kCells (I J : Nat → Nat) (f : Nat → Nat → Nat) : List Value := bl I ++ (bl J ++ lCells f)

theorem built57 (f : Nat → Nat → Nat) : Trym.prog.built 57 [(0, .agg (bl (f 0)).toArray), (1, .agg (bl (f 1)).toArray), (2, .agg (bl (f 2)).toArray), (3, .agg (bl (f 3)).toArray), (4, .agg (bl (f 4)).toArray), (5, .agg (bl (f 5)).toArray), (6, .agg (bl (f 6)).toArray), (7, .agg (bl (f 7)).toArray)] = some (lCells f).toArray := by
  kernel_rfl
theorem built59 (I J : Nat → Nat) (f : Nat → Nat → Nat) : Trym.prog.built 59 [(0, .agg (bl I).toArray), (1, .agg (bl J).toArray), (2, .agg (lCells f).toArray)] = some (kCells I J f).toArray := by
  kernel_rfl

theorem times_small (i : Int) (f : Nat → Nat) (w : World) (h0 : 0 ≤ i) (h1 : i < 8) (hf : Gf.Byte f) :
    Calls Trym.prog 32 #[.int .i64 i, .agg (bl f).toArray] w fun e w' => e = .returned (.agg (bl (Gf.mul i.toNat f)).toArray) ∧ Below w.heap.size w w' :=
  times_calls i i.toNat f w (by omega) (by omega) hf

theorem rangeAt_after {w w1 : World} {b : Nat} {f : Nat → Nat} (hb : Below w.heap.size w w1) (h : w.rangeAt b 0 (bl f)) : w1.rangeAt b 0 (bl f) := fun j v hv => by
  have hc := h j v hv
  rw [hb.cell (World.block_lt_of_cell? w _ hc)]
  exact hc

theorem info29l (f : Nat → Nat) : (Trym.prog.info? 29).map (·.size) = some (bl f).length := by
  rw [bl_len]; kernel_rfl

set_option maxHeartbeats 4000000 in
theorem newKey_calls (I J L : Nat → Nat) (w : World) (hL : Gf.Byte L) :
    Calls Trym.prog 15 #[.agg (bl I).toArray, .agg (bl J).toArray, .agg (bl L).toArray] w fun e w' => ∃ g, w.heap.size ≤ g ∧ e = .returned (.pointer (some ⟨g, 0, none⟩)) ∧ w'.heap[g]? = some (.cells (kCells I J fun n => Gf.mul n L).toArray 59 (0, 0)) ∧ Below w.heap.size w w' := by
  go_enter Trym.func15, Trym.ntmps15
  go_wp2_with fail
  have r1 : World.rangeAt (((w.alloc (.cells (bl I).toArray 29)).alloc (.cells (bl J).toArray 29)).alloc (.cells (bl L).toArray 29)) w.heap.size 0 (bl I) := Holds16.range (((Holds16.new w 29 I).alloc _).alloc _)
  have r2 : World.rangeAt (((w.alloc (.cells (bl I).toArray 29)).alloc (.cells (bl J).toArray 29)).alloc (.cells (bl L).toArray 29)) (w.heap.size + 1) 0 (bl J) := by
    have := Holds16.new (w.alloc (.cells (bl I).toArray 29)) 29 J
    simp at this
    exact (this.alloc _).range
  have r3 : World.rangeAt (((w.alloc (.cells (bl I).toArray 29)).alloc (.cells (bl J).toArray 29)).alloc (.cells (bl L).toArray 29)) (w.heap.size + 1 + 1) 0 (bl L) := by
    have := Holds16.new ((w.alloc (.cells (bl I).toArray 29)).alloc (.cells (bl J).toArray 29)) 29 L
    simp at this
    exact this.range
  have hB : Below w.heap.size w (((w.alloc (.cells (bl I).toArray 29)).alloc (.cells (bl J).toArray 29)).alloc (.cells (bl L).toArray 29)) := (((Below.refl _ _).alloc (Nat.le_refl _) _).alloc (by simp) _).alloc (by simp; omega) _
  generalize ((w.alloc (.cells (bl I).toArray 29)).alloc (.cells (bl J).toArray 29)).alloc (.cells (bl L).toArray 29) = W at *
  refine wp_region_noPanic ?_
  refine wp_region_held_drew (S := fun w' => w'.rangeAt w.heap.size 0 (bl I) ∧ w'.rangeAt (w.heap.size + 1) 0 (bl J) ∧ w'.rangeAt (w.heap.size + 1 + 1) 0 (bl L)) (by kernel_rfl) ⟨r1, r2, r3⟩ (fun hHeld => ?_)
  refine Held.take (i := 0) (some 7) (.agg (bl I).toArray) rfl rfl (by kernel_rfl) (by kernel_rfl) (by kernel_rfl) (fun _ _ _ h => h) (yieldsIf_load_mid (by rfl) _ _ rfl _ _ rfl (bl I) _ (fun _ h => h.1) Trym.underlying29 rfl (info29l I)) hHeld ?_
  simp only [Act.put, List.setIfInBounds_toArray, List.set_cons_zero, List.set_cons_succ]
  refine Held.take (i := 1) (some 8) (.agg (bl J).toArray) rfl rfl (by kernel_rfl) (by kernel_rfl) (by kernel_rfl) (fun _ _ _ h => h) (yieldsIf_load_mid (by rfl) _ _ rfl _ _ rfl (bl J) _ (fun _ h => h.2.1) Trym.underlying29 rfl (info29l J)) hHeld ?_
  simp only [Act.put, List.setIfInBounds_toArray, List.set_cons_zero, List.set_cons_succ]
  refine Held.take (i := 2) (some 9) (.agg (bl L).toArray) rfl rfl (by kernel_rfl) (by kernel_rfl) (by kernel_rfl) (fun _ _ _ h => h) (yieldsIf_load_mid (by rfl) _ _ rfl _ _ rfl (bl L) _ (fun _ h => h.2.2) Trym.underlying29 rfl (info29l L)) hHeld ?_
  simp only [Act.put, List.setIfInBounds_toArray, List.set_cons_zero, List.set_cons_succ]
  refine Held.take (i := 4) (some 11) (.agg (bl L).toArray) rfl rfl (by kernel_rfl) (by kernel_rfl) (by kernel_rfl) (fun _ _ _ h => h) (yieldsIf_load_mid (by rfl) _ _ rfl _ _ rfl (bl L) _ (fun _ h => h.2.2) Trym.underlying29 rfl (info29l L)) hHeld ?_
  simp only [Act.put, List.setIfInBounds_toArray, List.set_cons_zero, List.set_cons_succ]
  refine Held.take (i := 6) (some 13) (.agg (bl L).toArray) rfl rfl (by kernel_rfl) (by kernel_rfl) (by kernel_rfl) (fun _ _ _ h => h) (yieldsIf_load_mid (by rfl) _ _ rfl _ _ rfl (bl L) _ (fun _ h => h.2.2) Trym.underlying29 rfl (info29l L)) hHeld ?_
  simp only [Act.put, List.setIfInBounds_toArray, List.set_cons_zero, List.set_cons_succ]
  refine Held.take (i := 8) (some 15) (.agg (bl L).toArray) rfl rfl (by kernel_rfl) (by kernel_rfl) (by kernel_rfl) (fun _ _ _ h => h) (yieldsIf_load_mid (by rfl) _ _ rfl _ _ rfl (bl L) _ (fun _ h => h.2.2) Trym.underlying29 rfl (info29l L)) hHeld ?_
  simp only [Act.put, List.setIfInBounds_toArray, List.set_cons_zero, List.set_cons_succ]
  refine Held.take (i := 10) (some 17) (.agg (bl L).toArray) rfl rfl (by kernel_rfl) (by kernel_rfl) (by kernel_rfl) (fun _ _ _ h => h) (yieldsIf_load_mid (by rfl) _ _ rfl _ _ rfl (bl L) _ (fun _ h => h.2.2) Trym.underlying29 rfl (info29l L)) hHeld ?_
  simp only [Act.put, List.setIfInBounds_toArray, List.set_cons_zero, List.set_cons_succ]
  refine Held.take (i := 12) (some 19) (.agg (bl L).toArray) rfl rfl (by kernel_rfl) (by kernel_rfl) (by kernel_rfl) (fun _ _ _ h => h) (yieldsIf_load_mid (by rfl) _ _ rfl _ _ rfl (bl L) _ (fun _ h => h.2.2) Trym.underlying29 rfl (info29l L)) hHeld ?_
  simp only [Act.put, List.setIfInBounds_toArray, List.set_cons_zero, List.set_cons_succ]
  refine Held.take (i := 14) (some 21) (.agg (bl L).toArray) rfl rfl (by kernel_rfl) (by kernel_rfl) (by kernel_rfl) (fun _ _ _ h => h) (yieldsIf_load_mid (by rfl) _ _ rfl _ _ rfl (bl L) _ (fun _ h => h.2.2) Trym.underlying29 rfl (info29l L)) hHeld ?_
  simp only [Act.put, List.setIfInBounds_toArray, List.set_cons_zero, List.set_cons_succ]
  refine Held.take (i := 16) (some 23) (.agg (bl L).toArray) rfl rfl (by kernel_rfl) (by kernel_rfl) (by kernel_rfl) (fun _ _ _ h => h) (yieldsIf_load_mid (by rfl) _ _ rfl _ _ rfl (bl L) _ (fun _ h => h.2.2) Trym.underlying29 rfl (info29l L)) hHeld ?_
  simp only [Act.put, List.setIfInBounds_toArray, List.set_cons_zero, List.set_cons_succ]
  refine Held.ready_call (i := 3) (some 10) 32 _ _ #[.int .i64 0, .agg (bl L).toArray] rfl rfl rfl rfl (by kernel_rfl) (by simp [Act.eval]) Trym.call32 ?_
  refine (times_calls 0 0 L _ (by decide) (by decide) hL).mono ?_
  rintro e w1 ⟨rfl, hb1⟩
  have h1 : w1.rangeAt w.heap.size 0 (bl I) ∧ w1.rangeAt (w.heap.size + 1) 0 (bl J) ∧ w1.rangeAt (w.heap.size + 1 + 1) 0 (bl L) := ⟨rangeAt_after hb1 hHeld.1, rangeAt_after hb1 hHeld.2.1, rangeAt_after hb1 hHeld.2.2⟩
  have hB1 := Below.on hB.drew (Nat.le_refl _) hb1
  refine ⟨_, rfl, h1, ?_⟩
  clear hb1 hHeld hB
  simp only [Act.put, List.setIfInBounds_toArray, List.set_cons_zero, List.set_cons_succ]
  refine Held.ready_call (i := 5) (some 12) 32 _ _ #[.int .i64 1, .agg (bl L).toArray] rfl rfl rfl rfl (by kernel_rfl) (by simp [Act.eval]) Trym.call32 ?_
  refine (times_calls 1 1 L _ (by decide) (by decide) hL).mono ?_
  rintro e w2 ⟨rfl, hb2⟩
  have h2 : w2.rangeAt w.heap.size 0 (bl I) ∧ w2.rangeAt (w.heap.size + 1) 0 (bl J) ∧ w2.rangeAt (w.heap.size + 1 + 1) 0 (bl L) := ⟨rangeAt_after hb2 h1.1, rangeAt_after hb2 h1.2.1, rangeAt_after hb2 h1.2.2⟩
  have hB2 := Below.on hB1 (Nat.le_refl _) hb2
  refine ⟨_, rfl, h2, ?_⟩
  clear hb2 h1 hB1
  simp only [Act.put, List.setIfInBounds_toArray, List.set_cons_zero, List.set_cons_succ]
  refine Held.ready_call (i := 7) (some 14) 32 _ _ #[.int .i64 2, .agg (bl L).toArray] rfl rfl rfl rfl (by kernel_rfl) (by simp [Act.eval]) Trym.call32 ?_
  refine (times_calls 2 2 L _ (by decide) (by decide) hL).mono ?_
  rintro e w3 ⟨rfl, hb3⟩
  have h3 : w3.rangeAt w.heap.size 0 (bl I) ∧ w3.rangeAt (w.heap.size + 1) 0 (bl J) ∧ w3.rangeAt (w.heap.size + 1 + 1) 0 (bl L) := ⟨rangeAt_after hb3 h2.1, rangeAt_after hb3 h2.2.1, rangeAt_after hb3 h2.2.2⟩
  have hB3 := Below.on hB2 (Nat.le_refl _) hb3
  refine ⟨_, rfl, h3, ?_⟩
  clear hb3 h2 hB2
  simp only [Act.put, List.setIfInBounds_toArray, List.set_cons_zero, List.set_cons_succ]
  refine Held.ready_call (i := 9) (some 16) 32 _ _ #[.int .i64 3, .agg (bl L).toArray] rfl rfl rfl rfl (by kernel_rfl) (by simp [Act.eval]) Trym.call32 ?_
  refine (times_calls 3 3 L _ (by decide) (by decide) hL).mono ?_
  rintro e w4 ⟨rfl, hb4⟩
  have h4 : w4.rangeAt w.heap.size 0 (bl I) ∧ w4.rangeAt (w.heap.size + 1) 0 (bl J) ∧ w4.rangeAt (w.heap.size + 1 + 1) 0 (bl L) := ⟨rangeAt_after hb4 h3.1, rangeAt_after hb4 h3.2.1, rangeAt_after hb4 h3.2.2⟩
  have hB4 := Below.on hB3 (Nat.le_refl _) hb4
  refine ⟨_, rfl, h4, ?_⟩
  clear hb4 h3 hB3
  simp only [Act.put, List.setIfInBounds_toArray, List.set_cons_zero, List.set_cons_succ]
  refine Held.ready_call (i := 11) (some 18) 32 _ _ #[.int .i64 4, .agg (bl L).toArray] rfl rfl rfl rfl (by kernel_rfl) (by simp [Act.eval]) Trym.call32 ?_
  refine (times_calls 4 4 L _ (by decide) (by decide) hL).mono ?_
  rintro e w5 ⟨rfl, hb5⟩
  have h5 : w5.rangeAt w.heap.size 0 (bl I) ∧ w5.rangeAt (w.heap.size + 1) 0 (bl J) ∧ w5.rangeAt (w.heap.size + 1 + 1) 0 (bl L) := ⟨rangeAt_after hb5 h4.1, rangeAt_after hb5 h4.2.1, rangeAt_after hb5 h4.2.2⟩
  have hB5 := Below.on hB4 (Nat.le_refl _) hb5
  refine ⟨_, rfl, h5, ?_⟩
  clear hb5 h4 hB4
  simp only [Act.put, List.setIfInBounds_toArray, List.set_cons_zero, List.set_cons_succ]
  refine Held.ready_call (i := 13) (some 20) 32 _ _ #[.int .i64 5, .agg (bl L).toArray] rfl rfl rfl rfl (by kernel_rfl) (by simp [Act.eval]) Trym.call32 ?_
  refine (times_calls 5 5 L _ (by decide) (by decide) hL).mono ?_
  rintro e w6 ⟨rfl, hb6⟩
  have h6 : w6.rangeAt w.heap.size 0 (bl I) ∧ w6.rangeAt (w.heap.size + 1) 0 (bl J) ∧ w6.rangeAt (w.heap.size + 1 + 1) 0 (bl L) := ⟨rangeAt_after hb6 h5.1, rangeAt_after hb6 h5.2.1, rangeAt_after hb6 h5.2.2⟩
  have hB6 := Below.on hB5 (Nat.le_refl _) hb6
  refine ⟨_, rfl, h6, ?_⟩
  clear hb6 h5 hB5
  simp only [Act.put, List.setIfInBounds_toArray, List.set_cons_zero, List.set_cons_succ]
  refine Held.ready_call (i := 15) (some 22) 32 _ _ #[.int .i64 6, .agg (bl L).toArray] rfl rfl rfl rfl (by kernel_rfl) (by simp [Act.eval]) Trym.call32 ?_
  refine (times_calls 6 6 L _ (by decide) (by decide) hL).mono ?_
  rintro e w7 ⟨rfl, hb7⟩
  have h7 : w7.rangeAt w.heap.size 0 (bl I) ∧ w7.rangeAt (w.heap.size + 1) 0 (bl J) ∧ w7.rangeAt (w.heap.size + 1 + 1) 0 (bl L) := ⟨rangeAt_after hb7 h6.1, rangeAt_after hb7 h6.2.1, rangeAt_after hb7 h6.2.2⟩
  have hB7 := Below.on hB6 (Nat.le_refl _) hb7
  refine ⟨_, rfl, h7, ?_⟩
  clear hb7 h6 hB6
  simp only [Act.put, List.setIfInBounds_toArray, List.set_cons_zero, List.set_cons_succ]
  refine Held.ready_call (i := 17) (some 24) 32 _ _ #[.int .i64 7, .agg (bl L).toArray] rfl rfl rfl rfl (by kernel_rfl) (by simp [Act.eval]) Trym.call32 ?_
  refine (times_calls 7 7 L _ (by decide) (by decide) hL).mono ?_
  rintro e w8 ⟨rfl, hb8⟩
  have h8 : w8.rangeAt w.heap.size 0 (bl I) ∧ w8.rangeAt (w.heap.size + 1) 0 (bl J) ∧ w8.rangeAt (w.heap.size + 1 + 1) 0 (bl L) := ⟨rangeAt_after hb8 h7.1, rangeAt_after hb8 h7.2.1, rangeAt_after hb8 h7.2.2⟩
  have hB8 := Below.on hB7 (Nat.le_refl _) hb8
  refine ⟨_, rfl, h8, ?_⟩
  clear hb8 h7 hB7
  simp only [Act.put, List.setIfInBounds_toArray, List.set_cons_zero, List.set_cons_succ]
  refine Held.take (i := 18) (some 25) (.agg (lCells fun n => Gf.mul n L).toArray) rfl rfl (by kernel_rfl) (by kernel_rfl) (by kernel_rfl) (fun _ _ _ h => h) (Held.yields_build (by rfl) _ _ rfl _ (by simp [Act.eval]) _ (built57 fun n => Gf.mul n L)) h8 ?_
  simp only [Act.put, List.setIfInBounds_toArray, List.set_cons_zero, List.set_cons_succ]
  refine Held.take (i := 19) (some 26) (.agg (kCells I J fun n => Gf.mul n L).toArray) rfl rfl (by kernel_rfl) (by kernel_rfl) (by kernel_rfl) (fun _ _ _ h => h) (Held.yields_build (by rfl) _ _ rfl _ (by simp [Act.eval]) _ (built59 I J fun n => Gf.mul n L)) h8 ?_
  simp only [Act.put, List.setIfInBounds_toArray, List.set_cons_zero, List.set_cons_succ]
  refine Held.ready_box (i := 20) (some 27) 59 _ _ rfl rfl rfl rfl (by kernel_rfl) rfl ⟨World.rangeAt_alloc h8.1 _, World.rangeAt_alloc h8.2.1 _, World.rangeAt_alloc h8.2.2 _⟩ ?_
  simp only [Act.put, List.setIfInBounds_toArray, List.set_cons_zero, List.set_cons_succ]
  refine Held.take (i := 21) (some 6) (.pointer (some ⟨w8.heap.size, 0, none⟩)) rfl rfl (by kernel_rfl) (by kernel_rfl) (by kernel_rfl) (fun _ _ _ h => h) (Held.yields_move (by rfl) (.tmp 27) (.inr rfl)) ⟨World.rangeAt_alloc h8.1 _, World.rangeAt_alloc h8.2.1 _, World.rangeAt_alloc h8.2.2 _⟩ ?_
  simp only [Act.put, List.setIfInBounds_toArray, List.set_cons_zero, List.set_cons_succ]
  refine wpAnyH_done (by kernel_rfl) ?_ _
  refine NoPanic.normal ?_
  go_wp2_with fail
  go_ret
  exact ⟨w8.heap.size, hB8.size, rfl, heap_alloc_new w8 _, hB8.alloc hB8.size _⟩

end Go.Proofs.Qxb6614255aMods
