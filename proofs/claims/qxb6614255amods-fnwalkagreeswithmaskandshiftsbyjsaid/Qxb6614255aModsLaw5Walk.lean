import Derived.Test.Qxb6614255aModsLaw4Walk
import Derived.Test.Qxb6614255aModsMaskFn
namespace Go.Proofs.Qxb6614255aMods
open Go.ChangeShapes Go.WideShapes Go.ChangeAt Go.RowKit

theorem shift_back (a p q : Nat → Nat) : Gf.fx (Gf.fx (Gf.fx a p) q) (Gf.fx (Gf.fx Gf.zero p) q) = a := by
  rw [Gf.zero_fx, Gf.fx_assoc a p q, Gf.fx_assoc a, Gf.fx_self, Gf.fx_zero]

set_option maxHeartbeats 4000000 in
theorem law5_core (I J L : Nat → Nat) (j : Int) (nj s : Nat) (w : World) (hI : Gf.Byte I) (hJ : Gf.Byte J) (hL : Gf.Byte L) (hn : nj < 18446744073709551616) (hj : j % 18446744073709551616 = (nj : Int)) (hs : s ≤ 4096) :
    Calls Trym.prog 5 #[.agg (bl I).toArray, .agg (bl J).toArray, .agg (bl L).toArray, .int .i64 j, .int .i64 (s : Int)] w fun e w' => e = .returned (.bool true) ∧ Below w.heap.size w w' := by
  have s0 : decide ((s : Int) < 0) = false := by simp
  have s1 : decide (4096 < (s : Int)) = false := by simp; omega
  have Hj : Hid (j % 18446744073709551616 = (nj : Int)) := hj
  have hB0 : Below w.heap.size w (((w.alloc (.cells (bl I).toArray 29)).alloc (.cells (bl J).toArray 29)).alloc (.cells (bl L).toArray 29)) := (((Below.refl _ _).alloc (Nat.le_refl _) _).alloc (by simp) _).alloc (by simp; omega) _
  have hI0 : Holds16 (((w.alloc (.cells (bl I).toArray 29)).alloc (.cells (bl J).toArray 29)).alloc (.cells (bl L).toArray 29)) w.heap.size 29 I := ((Holds16.new w 29 I).alloc _).alloc _
  have hJ0 : Holds16 (((w.alloc (.cells (bl I).toArray 29)).alloc (.cells (bl J).toArray 29)).alloc (.cells (bl L).toArray 29)) (w.heap.size + 1) 29 J := by
    have := Holds16.new (w.alloc (.cells (bl I).toArray 29)) 29 J
    simp at this
    exact this.alloc _
  have hL0 : Holds16 (((w.alloc (.cells (bl I).toArray 29)).alloc (.cells (bl J).toArray 29)).alloc (.cells (bl L).toArray 29)) (w.heap.size + 1 + 1) 29 L := by
    have := Holds16.new ((w.alloc (.cells (bl I).toArray 29)).alloc (.cells (bl J).toArray 29)) 29 L
    simp at this
    exact this
  clear hj
  go_enter Trym.func5, Trym.ntmps5
  go_wp2_with (first
    | (refine wpList_load_row rfl 29 _ rfl w.heap.size rfl 29 _ (0, 0) _ hI0 Trym.underlying29 rfl (info29 _) ?_)
    | (refine wpList_load_row rfl 29 _ rfl (w.heap.size + 1) rfl 29 _ (0, 0) _ hJ0 Trym.underlying29 rfl (info29 _) ?_)
    | (refine wpList_load_row rfl 29 _ rfl (w.heap.size + 1 + 1) rfl 29 _ (0, 0) _ hL0 Trym.underlying29 rfl (info29 _) ?_))
  generalize ((w.alloc (.cells (bl I).toArray 29)).alloc (.cells (bl J).toArray 29)).alloc (.cells (bl L).toArray 29) = W0 at *
  refine (newKey_calls I J L _ hL).mono ?_
  rintro e w1 ⟨g, hg, rfl, hk1, hb1⟩
  have hkey1 : KeyAt w1 g I J fun n => Gf.mul n L := hk1
  have hI1 : Holds16 w1 w.heap.size 29 I := heap_after hb1 hI0
  have hJ1 : Holds16 w1 (w.heap.size + 1) 29 J := heap_after hb1 hJ0
  have hL1 : Holds16 w1 (w.heap.size + 1 + 1) 29 L := heap_after hb1 hL0
  have hB1 := Below.on hB0 (Nat.le_refl _) hb1
  have hg0 : w.heap.size + 1 + 1 < g := Nat.lt_of_lt_of_le hL0.lt hg
  clear hI0 hJ0 hL0 hB0 hb1 hk1
  go_wp2_with fail
  refine (zzwalk_calls g j nj I J _ _ hn Hj.out hI hJ hkey1).mono ?_
  rintro e w2 ⟨h, hh, rfl, hw2, hb2⟩
  have hkey2 : KeyAt w2 g I J fun n => Gf.mul n L := heap_after hb2 hkey1
  have hI2 : Holds16 w2 w.heap.size 29 I := heap_after hb2 hI1
  have hJ2 : Holds16 w2 (w.heap.size + 1) 29 J := heap_after hb2 hJ1
  have hL2 : Holds16 w2 (w.heap.size + 1 + 1) 29 L := heap_after hb2 hL1
  have hB2 := Below.on hB1 (Nat.le_refl _) hb2
  have hgh : g < h := Nat.lt_of_lt_of_le (heap_lt hkey1) hh
  clear hI1 hJ1 hL1 hB1 hb2 hkey1
  go_wp2_with fail
  refine (zzwalk_calls g 0 0 I J _ _ (by omega) (by decide) hI hJ hkey2).mono ?_
  rintro e w2' ⟨h0, hh0, rfl, hv2, hb2'⟩
  rw [Gf.mul_zero] at hv2
  have hkey2' : KeyAt w2' g I J fun n => Gf.mul n L := heap_after hb2' hkey2
  have hI2' : Holds16 w2' w.heap.size 29 I := heap_after hb2' hI2
  have hJ2' : Holds16 w2' (w.heap.size + 1) 29 J := heap_after hb2' hJ2
  have hL2' : Holds16 w2' (w.heap.size + 1 + 1) 29 L := heap_after hb2' hL2
  have hw2' : WalkAt w2' h g (Gf.mul nj J) (Gf.dbl I) 0 := heap_after hb2' hw2
  have hB2' := Below.on hB2 (Nat.le_refl _) hb2'
  have hhh : h < h0 := Nat.lt_of_lt_of_le (heap_lt hw2) hh0
  clear hI2 hJ2 hL2 hB2 hb2' hkey2 hw2
  go_wp2_with (refine wpList_load_row rfl 29 _ rfl (w.heap.size + 1) rfl 29 _ (0, 0) _ hJ2' Trym.underlying29 rfl (info29 _) ?_)
  rw [IntKind.wrap_u64, Hj.out]
  refine (gfMul_calls nj J _ hn hJ).mono ?_
  rintro e w3 ⟨rfl, hb3⟩
  have hkey3 : KeyAt w3 g I J fun n => Gf.mul n L := heap_after hb3 hkey2'
  have hI3 : Holds16 w3 w.heap.size 29 I := heap_after hb3 hI2'
  have hL3 : Holds16 w3 (w.heap.size + 1 + 1) 29 L := heap_after hb3 hL2'
  have hw3 : WalkAt w3 h g (Gf.mul nj J) (Gf.dbl I) 0 := heap_after hb3 hw2'
  have hv3 : WalkAt w3 h0 g Gf.zero (Gf.dbl I) 0 := heap_after hb3 hv2
  have hB3 := Below.on hB2' (Nat.le_refl _) hb3
  clear hI2' hJ2' hL2' hB2' hb3 hkey2' hw2' hv2
  have hjB := Gf.byte_mul hJ nj
  have HJ : Hid (Gf.mul nj J = Gf.mul nj J) := rfl
  obtain ⟨jJ, hjJ⟩ : ∃ jJ, jJ = Gf.mul nj J := ⟨_, rfl⟩
  rw [← hjJ] at hw3 hjB ⊢
  have HJJ : Hid (jJ = Gf.mul nj J) := hjJ
  clear hjJ HJ
  have hz3 : Holds16 (w3.alloc (.cells (bl Gf.zero).toArray 29)) w3.heap.size 29 Gf.zero := Holds16.new w3 29 Gf.zero
  have hbh : h0 < w3.heap.size := heap_lt hv3
  have hE4 : Env w.heap.size w ((w3.alloc (.cells (bl Gf.zero).toArray 29)).setRow w3.heap.size (bl jJ).toArray) g w3.heap.size I J L jJ :=
    ⟨Below.setRow (hB3.alloc hB3.size _) _ hB3.size _, (hI3.alloc _).otherRow _ _ (by omega), (hL3.alloc _).otherRow _ _ (by omega), hz3.setRow _, (setRow_other _ _ g _ (by omega)).trans (heap_alloc hkey3 _)⟩
  have hw4 : WalkAt ((w3.alloc (.cells (bl Gf.zero).toArray 29)).setRow w3.heap.size (bl jJ).toArray) h g jJ (Gf.dbl I) 0 := (setRow_other _ _ h _ (by omega)).trans (heap_alloc hw3 _)
  have hv4 : WalkAt ((w3.alloc (.cells (bl Gf.zero).toArray 29)).setRow w3.heap.size (bl jJ).toArray) h0 g Gf.zero (Gf.dbl I) 0 := (setRow_other _ _ h0 _ (by omega)).trans (heap_alloc hv3 _)
  clear hI3 hL3 hw3 hv3 hB3 hkey3
  go_wp2_with (refine wpList_store_row rfl 29 _ _ rfl w3.heap.size _ rfl rfl 29 _ hz3 (info29 _) (by rw [bl_size, bl_size]) (bl_all _) ?_)
  clear hz3
  generalize hb' : w3.heap.size = b at *
  clear hb'
  have hjl : ∀ n, Gf.Byte (Gf.mul n L) := fun n => Gf.byte_mul hL n
  go_loopg [15] s (fun c t wr => ∃ k : Nat, k ≤ s ∧ c = s - k ∧ t = .int .i64 ((k : Int) + 1) ∧ Env w.heap.size w wr g b I J L jJ ∧ WalkAt wr h g jJ (powI k I) (k : Int) ∧ WalkAt wr h0 g Gf.zero (powI k I) (k : Int))
  case atStart => exact ⟨0, by omega, by omega, rfl, hE4, hw4, hv4⟩
  case round =>
    obtain ⟨k, hk, hc, rfl, hE, hW, hV⟩ := hrel
    clear hE4 hw4 hv4
    by_cases hlt : k < s
    · have g0 : (k : Int) + 1 ≤ (s : Int) := by omega
      have k0 : (0 : Int) ≤ (k : Int) := by omega
      have k1 : (k : Int) ≤ 4096 := by omega
      have HP : Hid (nextP k (powI k I) = Gf.dbls ((k + 1 + 7) / 8) I) := (powI_next k I).trans (powI_succ k I)
      go_wp2_with fail
      refine (zznext_calls g h k jJ (powI k I) I J (fun n => Gf.mul n L) _ (by omega) (by omega) hjB (byte_powI hI k) hjl hE.key hW).mono ?_
      rintro e x1 ⟨rfl, hW1, hK1⟩
      rw [powI_next] at hW1
      rw [HP.out]
      have hE1 := hE.kept hK1 (by omega) (Nat.le_refl _) (by omega) (by omega) (by omega) (by omega)
      have hV1 : WalkAt x1 h0 g Gf.zero (powI k I) (k : Int) := hK1.holds hV (by omega)
      clear hK1 hE hW hV
      have z1 : Holds16 (x1.alloc (.cells (bl Gf.zero).toArray 29)) x1.heap.size 29 Gf.zero := Holds16.new x1 29 Gf.zero
      have q1 := heap_lt hV1
      have q2 := heap_lt hW1
      have q3 := hE1.hj.lt
      have q4 := heap_lt hE1.key
      have q5 := hE1.hL.lt
      have hE2 := (hE1.alloc (Nat.le_refl _) (.cells (bl Gf.zero).toArray 29)).setRow x1.heap.size (bl (Gf.fx (Gf.fx jJ (Gf.dbls ((k + 1 + 7) / 8) I)) (Gf.mul ((k + 1) % 8) L))).toArray (by omega) (by omega) (by omega) (by omega) (by omega)
      have hW2 : WalkAt ((x1.alloc (.cells (bl Gf.zero).toArray 29)).setRow x1.heap.size (bl (Gf.fx (Gf.fx jJ (Gf.dbls ((k + 1 + 7) / 8) I)) (Gf.mul ((k + 1) % 8) L))).toArray) h g jJ (powI (k + 1) I) ((k + 1 : Nat) : Int) := (setRow_other _ _ h _ (by omega)).trans (heap_alloc hW1 _)
      have hV2 : WalkAt ((x1.alloc (.cells (bl Gf.zero).toArray 29)).setRow x1.heap.size (bl (Gf.fx (Gf.fx jJ (Gf.dbls ((k + 1 + 7) / 8) I)) (Gf.mul ((k + 1) % 8) L))).toArray) h0 g Gf.zero (powI k I) (k : Int) := (setRow_other _ _ h0 _ (by omega)).trans (heap_alloc hV1 _)
      have hA2 : Holds16 ((x1.alloc (.cells (bl Gf.zero).toArray 29)).setRow x1.heap.size (bl (Gf.fx (Gf.fx jJ (Gf.dbls ((k + 1 + 7) / 8) I)) (Gf.mul ((k + 1) % 8) L))).toArray) x1.heap.size 29 (Gf.fx (Gf.fx jJ (Gf.dbls ((k + 1 + 7) / 8) I)) (Gf.mul ((k + 1) % 8) L)) := z1.setRow _
      clear hE1 hW1 hV1
      go_wp2_with (refine wpList_store_row rfl 29 _ _ rfl x1.heap.size _ rfl rfl 29 _ z1 (info29 _) (by rw [bl_size, bl_size]) (bl_all _) ?_)
      clear z1
      refine (zznext_calls g h0 k Gf.zero (powI k I) I J (fun n => Gf.mul n L) ((x1.alloc (.cells (bl Gf.zero).toArray 29)).setRow x1.heap.size (bl (Gf.fx (Gf.fx jJ (Gf.dbls ((k + 1 + 7) / 8) I)) (Gf.mul ((k + 1) % 8) L))).toArray) (by omega) (by omega) Gf.byte_zero (byte_powI hI k) hjl hE2.key hV2).mono ?_
      rintro e x2 ⟨rfl, hV3, hK2⟩
      rw [powI_next] at hV3
      rw [HP.out]
      have hE3 := hE2.kept hK2 (by omega) (Nat.le_refl _) (by omega) (by omega) (by omega) (by omega)
      have hW3 : WalkAt x2 h g jJ (powI (k + 1) I) ((k + 1 : Nat) : Int) := hK2.holds hW2 (by omega)
      have hA3 : Holds16 x2 x1.heap.size 29 (Gf.fx (Gf.fx jJ (Gf.dbls ((k + 1 + 7) / 8) I)) (Gf.mul ((k + 1) % 8) L)) := hK2.holds hA2 (by omega)
      clear hK2 hE2 hW2 hV2 hA2
      generalize x1.heap.size = b1 at *
      clear q1 q2
      have z2 : Holds16 (x2.alloc (.cells (bl Gf.zero).toArray 29)) x2.heap.size 29 Gf.zero := Holds16.new x2 29 Gf.zero
      have q1 := heap_lt hV3
      have q2 := heap_lt hW3
      have q6 := hE3.hj.lt
      have q7 := heap_lt hE3.key
      have q8 := hE3.hL.lt
      have q9 := hA3.lt
      have hE4 := (hE3.alloc (Nat.le_refl _) (.cells (bl Gf.zero).toArray 29)).setRow x2.heap.size (bl (Gf.fx (Gf.fx Gf.zero (Gf.dbls ((k + 1 + 7) / 8) I)) (Gf.mul ((k + 1) % 8) L))).toArray (by omega) (by omega) (by omega) (by omega) (by omega)
      have hW4 : WalkAt ((x2.alloc (.cells (bl Gf.zero).toArray 29)).setRow x2.heap.size (bl (Gf.fx (Gf.fx Gf.zero (Gf.dbls ((k + 1 + 7) / 8) I)) (Gf.mul ((k + 1) % 8) L))).toArray) h g jJ (powI (k + 1) I) ((k + 1 : Nat) : Int) := (setRow_other _ _ h _ (by omega)).trans (heap_alloc hW3 _)
      have hV4 : WalkAt ((x2.alloc (.cells (bl Gf.zero).toArray 29)).setRow x2.heap.size (bl (Gf.fx (Gf.fx Gf.zero (Gf.dbls ((k + 1 + 7) / 8) I)) (Gf.mul ((k + 1) % 8) L))).toArray) h0 g Gf.zero (powI (k + 1) I) ((k + 1 : Nat) : Int) := (setRow_other _ _ h0 _ (by omega)).trans (heap_alloc hV3 _)
      have hA4 : Holds16 ((x2.alloc (.cells (bl Gf.zero).toArray 29)).setRow x2.heap.size (bl (Gf.fx (Gf.fx Gf.zero (Gf.dbls ((k + 1 + 7) / 8) I)) (Gf.mul ((k + 1) % 8) L))).toArray) b1 29 (Gf.fx (Gf.fx jJ (Gf.dbls ((k + 1 + 7) / 8) I)) (Gf.mul ((k + 1) % 8) L)) := (hA3.alloc _).otherRow _ _ (by omega)
      have hC4 : Holds16 ((x2.alloc (.cells (bl Gf.zero).toArray 29)).setRow x2.heap.size (bl (Gf.fx (Gf.fx Gf.zero (Gf.dbls ((k + 1 + 7) / 8) I)) (Gf.mul ((k + 1) % 8) L))).toArray) x2.heap.size 29 (Gf.fx (Gf.fx Gf.zero (Gf.dbls ((k + 1 + 7) / 8) I)) (Gf.mul ((k + 1) % 8) L)) := z2.setRow _
      clear hE3 hW3 hV3 hA3
      go_wp2_with (refine wpList_store_row rfl 29 _ _ rfl x2.heap.size _ rfl rfl 29 _ z2 (info29 _) (by rw [bl_size, bl_size]) (bl_all _) ?_)
      clear z2
      simp only [Act.put]
      change Code.wp Trym.prog _ _ _ ((x2.alloc (.cells (bl Gf.zero).toArray 29)).setRow x2.heap.size (bl (Gf.fx (Gf.fx Gf.zero (Gf.dbls ((k + 1 + 7) / 8) I)) (Gf.mul ((k + 1) % 8) L))).toArray)
      generalize (x2.alloc (.cells (bl Gf.zero).toArray 29)).setRow x2.heap.size (bl (Gf.fx (Gf.fx Gf.zero (Gf.dbls ((k + 1 + 7) / 8) I)) (Gf.mul ((k + 1) % 8) L))).toArray = X at *
      generalize x2.heap.size = b2 at *
      have hAB : Gf.Byte (Gf.fx (Gf.fx jJ (Gf.dbls ((k + 1 + 7) / 8) I)) (Gf.mul ((k + 1) % 8) L)) := Gf.byte_fx (Gf.byte_fx hjB (Gf.byte_dbls hI _)) (hjl _)
      have hCB : Gf.Byte (Gf.fx (Gf.fx Gf.zero (Gf.dbls ((k + 1 + 7) / 8) I)) (Gf.mul ((k + 1) % 8) L)) := Gf.byte_fx (Gf.byte_fx Gf.byte_zero (Gf.byte_dbls hI _)) (hjl _)
      refine wp_region_noPanic ?_
      refine wp_region_held_drew (S := fun x => Env w.heap.size w x g b I J L jJ ∧ Holds16 x b1 29 (Gf.fx (Gf.fx jJ (Gf.dbls ((k + 1 + 7) / 8) I)) (Gf.mul ((k + 1) % 8) L)) ∧ Holds16 x b2 29 (Gf.fx (Gf.fx Gf.zero (Gf.dbls ((k + 1 + 7) / 8) I)) (Gf.mul ((k + 1) % 8) L)) ∧ WalkAt x h g jJ (powI (k + 1) I) ((k + 1 : Nat) : Int) ∧ WalkAt x h0 g Gf.zero (powI (k + 1) I) ((k + 1 : Nat) : Int)) (by kernel_rfl) ⟨hE4.drew, hA4, hC4, hW4, hV4⟩ (fun hHeld => ?_)
      refine Held.take (i := 0) (some 46) (.agg (bl (Gf.fx (Gf.fx jJ (Gf.dbls ((k + 1 + 7) / 8) I)) (Gf.mul ((k + 1) % 8) L))).toArray) rfl rfl (by kernel_rfl) (by kernel_rfl) (by kernel_rfl) (fun _ _ _ h => h) (Held.yields_load (by rfl) _ _ rfl _ _ rfl (bl (Gf.fx (Gf.fx jJ (Gf.dbls ((k + 1 + 7) / 8) I)) (Gf.mul ((k + 1) % 8) L))) _ (fun _ h => h.2.1.range) Trym.underlying29 rfl (info29l _)) hHeld ?_
      simp only [Act.put, List.setIfInBounds_toArray, List.set_cons_zero, List.set_cons_succ]
      refine Held.take (i := 1) (some 47) (.pointer (some ⟨g, 0, none⟩)) rfl rfl (by kernel_rfl) (by kernel_rfl) (by kernel_rfl) (fun _ _ _ h => h) (Held.yields_move (by rfl) (.tmp 11) (.inl rfl)) hHeld ?_
      simp only [Act.put, List.setIfInBounds_toArray, List.set_cons_zero, List.set_cons_succ]
      refine Held.take (i := 2) (some 48) (.int .i64 j) rfl rfl (by kernel_rfl) (by kernel_rfl) (by kernel_rfl) (fun _ _ _ h => h) (Held.yields_move (by rfl) (.tmp 3) (.inl rfl)) hHeld ?_
      simp only [Act.put, List.setIfInBounds_toArray, List.set_cons_zero, List.set_cons_succ]
      refine Held.take (i := 3) (some 49) (.int .i64 ((k : Int) + 1)) rfl rfl (by kernel_rfl) (by kernel_rfl) (by kernel_rfl) (fun _ _ _ h => h) (Held.yields_move (by rfl) (.tmp 15) (.inl rfl)) hHeld ?_
      simp only [Act.put, List.setIfInBounds_toArray, List.set_cons_zero, List.set_cons_succ]
      refine Held.ready_call (i := 4) (some 50) 21 _ _ #[.pointer (some ⟨g, 0, none⟩), .int .i64 j, .int .i64 ((k + 1 : Nat) : Int)] rfl rfl rfl rfl (by kernel_rfl) (by simp [Act.eval]) Trym.call21 ?_
      refine (zzmask_calls g (k + 1) j nj I J (fun n => Gf.mul n L) _ (by omega) hn Hj.out hI hJ hjl hHeld.1.key).mono ?_
      rintro e x3 ⟨rfl, hb3⟩
      rw [← HJJ.out]
      have y3 : Env w.heap.size w x3 g b I J L jJ ∧ Holds16 x3 b1 29 (Gf.fx (Gf.fx jJ (Gf.dbls ((k + 1 + 7) / 8) I)) (Gf.mul ((k + 1) % 8) L)) ∧ Holds16 x3 b2 29 (Gf.fx (Gf.fx Gf.zero (Gf.dbls ((k + 1 + 7) / 8) I)) (Gf.mul ((k + 1) % 8) L)) ∧ WalkAt x3 h g jJ (powI (k + 1) I) ((k + 1 : Nat) : Int) ∧ WalkAt x3 h0 g Gf.zero (powI (k + 1) I) ((k + 1 : Nat) : Int) := ⟨hHeld.1.after (Nat.le_refl _) hb3, heap_after hb3 hHeld.2.1, heap_after hb3 hHeld.2.2.1, heap_after hb3 hHeld.2.2.2.1, heap_after hb3 hHeld.2.2.2.2⟩
      refine ⟨_, rfl, y3, ?_⟩
      clear hb3 hHeld hE4 hA4 hC4 hW4 hV4
      simp only [Act.put, List.setIfInBounds_toArray, List.set_cons_zero, List.set_cons_succ]
      refine Held.take (i := 5) (some 51) (.bool false) rfl rfl (by kernel_rfl) (by kernel_rfl) (by kernel_rfl) (fun _ _ _ h => h) (Held.yields_binOp (by rfl) _ _ _ _ _ rfl _ _ _ rfl rfl (neq29 _ hAB _ _)) y3 ?_
      simp only [Act.put, List.setIfInBounds_toArray, List.set_cons_zero, List.set_cons_succ]
      refine wpAnyH_done (by kernel_rfl) ?_ _
      refine NoPanic.normal ?_
      go_wp2_with fail
      refine wp_region_noPanic ?_
      refine wp_region_held_drew (S := fun x => Env w.heap.size w x g b I J L jJ ∧ Holds16 x b1 29 (Gf.fx (Gf.fx jJ (Gf.dbls ((k + 1 + 7) / 8) I)) (Gf.mul ((k + 1) % 8) L)) ∧ Holds16 x b2 29 (Gf.fx (Gf.fx Gf.zero (Gf.dbls ((k + 1 + 7) / 8) I)) (Gf.mul ((k + 1) % 8) L)) ∧ WalkAt x h g jJ (powI (k + 1) I) ((k + 1 : Nat) : Int) ∧ WalkAt x h0 g Gf.zero (powI (k + 1) I) ((k + 1 : Nat) : Int)) (by kernel_rfl) ⟨y3.1.drew, y3.2⟩ (fun hHeld => ?_)
      refine Held.take (i := 0) (some 52) (.agg (bl (Gf.fx (Gf.fx jJ (Gf.dbls ((k + 1 + 7) / 8) I)) (Gf.mul ((k + 1) % 8) L))).toArray) rfl rfl (by kernel_rfl) (by kernel_rfl) (by kernel_rfl) (fun _ _ _ h => h) (Held.yields_load (by rfl) _ _ rfl _ _ rfl (bl (Gf.fx (Gf.fx jJ (Gf.dbls ((k + 1 + 7) / 8) I)) (Gf.mul ((k + 1) % 8) L))) _ (fun _ h => h.2.1.range) Trym.underlying29 rfl (info29l _)) hHeld ?_
      simp only [Act.put, List.setIfInBounds_toArray, List.set_cons_zero, List.set_cons_succ]
      refine Held.take (i := 1) (some 53) (.agg (bl (Gf.fx (Gf.fx Gf.zero (Gf.dbls ((k + 1 + 7) / 8) I)) (Gf.mul ((k + 1) % 8) L))).toArray) rfl rfl (by kernel_rfl) (by kernel_rfl) (by kernel_rfl) (fun _ _ _ h => h) (Held.yields_load (by rfl) _ _ rfl _ _ rfl (bl (Gf.fx (Gf.fx Gf.zero (Gf.dbls ((k + 1 + 7) / 8) I)) (Gf.mul ((k + 1) % 8) L))) _ (fun _ h => h.2.2.1.range) Trym.underlying29 rfl (info29l _)) hHeld ?_
      simp only [Act.put, List.setIfInBounds_toArray, List.set_cons_zero, List.set_cons_succ]
      refine Held.take (i := 3) (some 55) (.agg (bl jJ).toArray) rfl rfl (by kernel_rfl) (by kernel_rfl) (by kernel_rfl) (fun _ _ _ h => h) (Held.yields_load (by rfl) _ _ rfl _ _ rfl (bl jJ) _ (fun _ h => h.1.hj.range) Trym.underlying29 rfl (info29l _)) hHeld ?_
      simp only [Act.put, List.setIfInBounds_toArray, List.set_cons_zero, List.set_cons_succ]
      refine Held.ready_call (i := 2) (some 54) 18 _ _ #[.agg (bl (Gf.fx (Gf.fx jJ (Gf.dbls ((k + 1 + 7) / 8) I)) (Gf.mul ((k + 1) % 8) L))).toArray, .agg (bl (Gf.fx (Gf.fx Gf.zero (Gf.dbls ((k + 1 + 7) / 8) I)) (Gf.mul ((k + 1) % 8) L))).toArray] rfl rfl rfl rfl (by kernel_rfl) (by simp [Act.eval]) Trym.call18 ?_
      refine (xorB_calls (Gf.fx (Gf.fx jJ (Gf.dbls ((k + 1 + 7) / 8) I)) (Gf.mul ((k + 1) % 8) L)) (Gf.fx (Gf.fx Gf.zero (Gf.dbls ((k + 1 + 7) / 8) I)) (Gf.mul ((k + 1) % 8) L)) _ hAB hCB).mono ?_
      rintro e x4 ⟨rfl, hb4⟩
      rw [shift_back]
      have y4 : Env w.heap.size w x4 g b I J L jJ ∧ Holds16 x4 b1 29 (Gf.fx (Gf.fx jJ (Gf.dbls ((k + 1 + 7) / 8) I)) (Gf.mul ((k + 1) % 8) L)) ∧ Holds16 x4 b2 29 (Gf.fx (Gf.fx Gf.zero (Gf.dbls ((k + 1 + 7) / 8) I)) (Gf.mul ((k + 1) % 8) L)) ∧ WalkAt x4 h g jJ (powI (k + 1) I) ((k + 1 : Nat) : Int) ∧ WalkAt x4 h0 g Gf.zero (powI (k + 1) I) ((k + 1 : Nat) : Int) := ⟨hHeld.1.after (Nat.le_refl _) hb4, heap_after hb4 hHeld.2.1, heap_after hb4 hHeld.2.2.1, heap_after hb4 hHeld.2.2.2.1, heap_after hb4 hHeld.2.2.2.2⟩
      refine ⟨_, rfl, y4, ?_⟩
      clear hb4 hHeld y3
      simp only [Act.put, List.setIfInBounds_toArray, List.set_cons_zero, List.set_cons_succ]
      refine Held.take (i := 4) (some 56) (.bool false) rfl rfl (by kernel_rfl) (by kernel_rfl) (by kernel_rfl) (fun _ _ _ h => h) (Held.yields_binOp (by rfl) _ _ _ _ _ rfl _ _ _ rfl rfl (neq29 _ hjB _ _)) y4 ?_
      simp only [Act.put, List.setIfInBounds_toArray, List.set_cons_zero, List.set_cons_succ]
      refine wpAnyH_done (by kernel_rfl) ?_ _
      refine NoPanic.normal ?_
      obtain ⟨yE, -, -, yW, yV⟩ := y4
      clear hAB hCB HP
      go_wp2_with fail
      go_roundg (s - (k + 1))
      case measure => omega
      case rel => exact ⟨k + 1, by omega, rfl, by go_num, yE, yW, yV⟩
    · have g0 : ¬ (k : Int) + 1 ≤ (s : Int) := by omega
      go_wp2_with fail
      go_ret
      exact ⟨rfl, hE.below⟩

set_option maxHeartbeats 1000000 in
theorem law5_out (I J L : Nat → Nat) (j s : Int) (w : World) (hs : s < 0 ∨ 4096 < s) :
    Calls Trym.prog 5 #[.agg (bl I).toArray, .agg (bl J).toArray, .agg (bl L).toArray, .int .i64 j, .int .i64 s] w fun e w' => e = .returned (.bool true) ∧ Below w.heap.size w w' := by
  by_cases h0 : s < 0
  · clear hs
    go_enter Trym.func5, Trym.ntmps5
    go_wp2_with fail
    go_ret
    exact ⟨rfl, (((Below.refl _ _).alloc (Nat.le_refl _) _).alloc (by simp) _).alloc (by simp; omega) _⟩
  · have h1 : (4096 : Int) < s := by omega
    have h0' : decide (s < 0) = false := by simp; omega
    clear hs h0
    go_enter Trym.func5, Trym.ntmps5
    go_wp2_with fail
    go_ret
    exact ⟨rfl, (((Below.refl _ _).alloc (Nat.le_refl _) _).alloc (by simp) _).alloc (by simp; omega) _⟩

theorem law5_walk (I J L : Nat → Nat) (j s : Int) (w : World) (hI : Gf.Byte I) (hJ : Gf.Byte J) (hL : Gf.Byte L) :
    Calls Trym.prog 5 #[.agg (bl I).toArray, .agg (bl J).toArray, .agg (bl L).toArray, .int .i64 j, .int .i64 s] w fun e w' => e = .returned (.bool true) ∧ Below w.heap.size w w' := by
  by_cases hs : s < 0 ∨ 4096 < s
  · exact law5_out I J L j s w hs
  · obtain ⟨n, rfl⟩ := Int.eq_ofNat_of_zero_le (show 0 ≤ s by omega)
    exact law5_core I J L j (j % 18446744073709551616).toNat n w hI hJ hL (by omega) (by omega) (by omega)

end Go.Proofs.Qxb6614255aMods
