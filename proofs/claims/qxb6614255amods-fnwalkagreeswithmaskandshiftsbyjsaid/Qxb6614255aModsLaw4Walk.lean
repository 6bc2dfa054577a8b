import Derived.Test.Qxb6614255aModsEqWalk
import Derived.Deep.LoopGhost
namespace Go.Proofs.Qxb6614255aMods
open Go.ChangeShapes Go.WideShapes Go.ChangeAt Go.RowKit

theorem conv35 (n : Nat) (hn : n < 8) (w : World) : (convert 3 35 (.int .i64 (n : Int))).run Trym.prog w = .ok (.int .u64 (n : Int)) w := by
  have : IntKind.u64.wrap (n : Int) = (n : Int) := by rw [IntKind.wrap_u64]; omega
  simp [go_sem, this]

/-- the power of I that a walk holds behind k steps -/
def powI (k : Nat) (I : Nat → Nat) : Nat → Nat := Gf.dbls (if k = 0 then 1 else (k + 7) / 8) I
theorem powI_zero (I : Nat → Nat) : powI 0 I = Gf.dbl I := rfl
theorem powI_succ (k : Nat) (I : Nat → Nat) : powI (k + 1) I = Gf.dbls ((k + 1 + 7) / 8) I := by
  unfold powI; rw [if_neg (by omega)]
theorem powI_next (k : Nat) (I : Nat → Nat) : nextP k (powI k I) = powI (k + 1) I := by
  rw [powI_succ]
  unfold nextP powI
  by_cases h0 : k = 0
  · subst h0; rw [if_neg (by omega), if_pos rfl]
  · rw [if_neg h0]
    by_cases h8 : (k + 1) % 8 = 1
    · rw [if_pos ⟨by omega, h8⟩, show (k + 1 + 7) / 8 = (k + 7) / 8 + 1 from by omega]
      rfl
    · rw [if_neg (fun h => h8 h.2), show (k + 1 + 7) / 8 = (k + 7) / 8 from by omega]
theorem byte_powI {I : Nat → Nat} (hI : Gf.Byte I) (k : Nat) : Gf.Byte (powI k I) := Gf.byte_dbls hI _

/-- what stays in every round -/
structure Env (B : Nat) (w wr : World) (g b : Nat) (I J L jJ : Nat → Nat) : Prop where
  below : Below B w wr
  hI : Holds16 wr B 29 I
  hL : Holds16 wr (B + 1 + 1) 29 L
  hj : Holds16 wr b 29 jJ
  key : KeyAt wr g I J fun n => Gf.mul n L
section
variable {B : Nat} {w wr x : World} {g b : Nat} {I J L jJ : Nat → Nat}
theorem Env.after (E : Env B w wr g b I J L jJ) (hB : B ≤ w.heap.size) (h : Below wr.heap.size wr x) : Env B w x g b I J L jJ :=
  ⟨Below.on E.below hB h, heap_after h E.hI, heap_after h E.hL, heap_after h E.hj, heap_after h E.key⟩
theorem Env.drew (E : Env B w wr g b I J L jJ) : Env B w wr.drew g b I J L jJ := ⟨E.below.drew, E.hI, E.hL, E.hj, E.key⟩
theorem Env.alloc (E : Env B w wr g b I J L jJ) (hB : B ≤ w.heap.size) (o : Obj) : Env B w (wr.alloc o) g b I J L jJ := E.after hB ((Below.refl _ _).alloc (Nat.le_refl _) o)
theorem Env.setRow (E : Env B w wr g b I J L jJ) (r : Nat) (cs : Array Value) (hr : B ≤ r) (h1 : r ≠ B) (h2 : r ≠ B + 1 + 1) (h3 : r ≠ b) (h4 : r ≠ g) : Env B w (wr.setRow r cs) g b I J L jJ :=
  ⟨Below.setRow E.below r hr cs, E.hI.otherRow r cs (Ne.symm h1), E.hL.otherRow r cs (Ne.symm h2), E.hj.otherRow r cs (Ne.symm h3), (setRow_other wr r g cs (Ne.symm h4)).trans E.key⟩
theorem Env.kept {h : Nat} (E : Env B w wr g b I J L jJ) (K : Kept h wr x) (hh : B ≤ h) (hB : B ≤ w.heap.size) (h1 : B ≠ h) (h2 : B + 1 + 1 ≠ h) (h3 : b ≠ h) (h4 : g ≠ h) : Env B w x g b I J L jJ :=
  ⟨E.below.trans (K.below hh (Nat.le_trans hB E.below.size)), K.holds E.hI h1, K.holds E.hL h2, K.holds E.hj h3, K.holds E.key h4⟩
end

set_option maxHeartbeats 4000000 in
theorem law4_core (I J L : Nat → Nat) (j : Int) (nj s : Nat) (w : World) (hI : Gf.Byte I) (hJ : Gf.Byte J) (hL : Gf.Byte L) (hn : nj < 18446744073709551616) (hj : j % 18446744073709551616 = (nj : Int)) (hs : s ≤ 4096) :
    Calls Trym.prog 4 #[.agg (bl I).toArray, .agg (bl J).toArray, .agg (bl L).toArray, .int .i64 j, .int .i64 (s : Int)] w fun e w' => e = .returned (.bool true) ∧ Below w.heap.size w w' := by
  have s0 : decide ((s : Int) < 0) = false := by simp
  have s1 : decide (4096 < (s : Int)) = false := by simp; omega
  have Hj : Hid (j % 18446744073709551616 = (nj : Int)) := hj
  have hB0 : Below w.heap.size w (((w.alloc (.cells (bl I).toArray 29)).alloc (.cells (bl J).toArray 29)).alloc (.cells (bl L).toArray 29)) := (((Below.refl _ _).alloc (Nat.le_refl _) _).alloc (by simp) _).alloc (by simp; omega) _
  have hI0 : Holds16 (((w.alloc (.cells (bl I).toArray 29)).alloc (.cells (bl J).toArray 29)).alloc (.cells (bl L).toArray 29)) w.heap.size 29 I := ((Holds16.new w 29 I).alloc _).alloc _
  have hJ0 : Holds16 (((w.alloc (.cells (bl I).toArray 29)).alloc (.cells (bl J).toArray 29)).alloc (.cells (bl L).toArray 29)) (w.heap.size + 1) 29 J := by
    have := Holds16.new (w.alloc (.cells (bl I).toArray 29)) 29 J
    simp at this
    exact this.alloc _
  have hL0 : Holds16 (((w.alloc (.cells (bl I).toArray 29)).alloc (.cells (bl J).toArray 29)).alloc (.cells (bl L).toArray 29)) (w.heap.size + 1 + 1) 29 L := by
    have := Holds16.new ((w.alloc (.cells (bl I).toArray 29)).alloc (.cells (bl J).toArray 29)) 29 L
    simp at this
    exact this
  clear hj
  go_enter Trym.func4, Trym.ntmps4
  go_wp2_with (first
    | (refine wpList_load_row rfl 29 _ rfl w.heap.size rfl 29 _ (0, 0) _ hI0 Trym.underlying29 rfl (info29 _) ?_)
    | (refine wpList_load_row rfl 29 _ rfl (w.heap.size + 1) rfl 29 _ (0, 0) _ hJ0 Trym.underlying29 rfl (info29 _) ?_)
    | (refine wpList_load_row rfl 29 _ rfl (w.heap.size + 1 + 1) rfl 29 _ (0, 0) _ hL0 Trym.underlying29 rfl (info29 _) ?_))
  generalize ((w.alloc (.cells (bl I).toArray 29)).alloc (.cells (bl J).toArray 29)).alloc (.cells (bl L).toArray 29) = W0 at *
  refine (newKey_calls I J L _ hL).mono ?_
  rintro e w1 ⟨g, hg, rfl, hk1, hb1⟩
  have hkey1 : KeyAt w1 g I J fun n => Gf.mul n L := hk1
  have hI1 : Holds16 w1 w.heap.size 29 I := heap_after hb1 hI0
  have hJ1 : Holds16 w1 (w.heap.size + 1) 29 J := heap_after hb1 hJ0
  have hL1 : Holds16 w1 (w.heap.size + 1 + 1) 29 L := heap_after hb1 hL0
  have hB1 := Below.on hB0 (Nat.le_refl _) hb1
  have hg0 : w.heap.size + 1 + 1 < g := Nat.lt_of_lt_of_le hL0.lt hg
  clear hI0 hJ0 hL0 hB0 hb1 hk1
  go_wp2_with fail
  refine (zzwalk_calls g j nj I J _ _ hn Hj.out hI hJ hkey1).mono ?_
  rintro e w2 ⟨h, hh, rfl, hw2, hb2⟩
  have hkey2 : KeyAt w2 g I J fun n => Gf.mul n L := heap_after hb2 hkey1
  have hI2 : Holds16 w2 w.heap.size 29 I := heap_after hb2 hI1
  have hJ2 : Holds16 w2 (w.heap.size + 1) 29 J := heap_after hb2 hJ1
  have hL2 : Holds16 w2 (w.heap.size + 1 + 1) 29 L := heap_after hb2 hL1
  have hB2 := Below.on hB1 (Nat.le_refl _) hb2
  have hgh : g < h := Nat.lt_of_lt_of_le (heap_lt hkey1) hh
  clear hI1 hJ1 hL1 hB1 hb2 hkey1
  go_wp2_with (refine wpList_load_row rfl 29 _ rfl (w.heap.size + 1) rfl 29 _ (0, 0) _ hJ2 Trym.underlying29 rfl (info29 _) ?_)
  rw [IntKind.wrap_u64, Hj.out]
  refine (gfMul_calls nj J _ hn hJ).mono ?_
  rintro e w3 ⟨rfl, hb3⟩
  have hkey3 : KeyAt w3 g I J fun n => Gf.mul n L := heap_after hb3 hkey2
  have hI3 : Holds16 w3 w.heap.size 29 I := heap_after hb3 hI2
  have hL3 : Holds16 w3 (w.heap.size + 1 + 1) 29 L := heap_after hb3 hL2
  have hw3 : WalkAt w3 h g (Gf.mul nj J) (Gf.dbl I) 0 := heap_after hb3 hw2
  have hB3 := Below.on hB2 (Nat.le_refl _) hb3
  clear hI2 hJ2 hL2 hB2 hb3 hkey2 hw2
  have hjB := Gf.byte_mul hJ nj
  generalize Gf.mul nj J = jJ at *
  have hz3 : Holds16 (w3.alloc (.cells (bl Gf.zero).toArray 29)) w3.heap.size 29 Gf.zero := Holds16.new w3 29 Gf.zero
  have hbh : h < w3.heap.size := heap_lt hw3
  have hE4 : Env w.heap.size w ((w3.alloc (.cells (bl Gf.zero).toArray 29)).setRow w3.heap.size (bl jJ).toArray) g w3.heap.size I J L jJ :=
    ⟨Below.setRow (hB3.alloc hB3.size _) _ hB3.size _, (hI3.alloc _).otherRow _ _ (by omega), (hL3.alloc _).otherRow _ _ (by omega), hz3.setRow _, (setRow_other _ _ g _ (by omega)).trans (heap_alloc hkey3 _)⟩
  have hw4 : WalkAt ((w3.alloc (.cells (bl Gf.zero).toArray 29)).setRow w3.heap.size (bl jJ).toArray) h g jJ (Gf.dbl I) 0 := (setRow_other _ _ h _ (by omega)).trans (heap_alloc hw3 _)
  clear hI3 hL3 hw3 hB3 hkey3
  go_wp2_with (refine wpList_store_row rfl 29 _ _ rfl w3.heap.size _ rfl rfl 29 _ hz3 (info29 _) (by rw [bl_size, bl_size]) (bl_all _) ?_)
  clear hz3
  generalize hb' : w3.heap.size = b at *
  clear hb'
  have hjl : ∀ n, Gf.Byte (Gf.mul n L) := fun n => Gf.byte_mul hL n
  go_loopg [14] s (fun c t wr => ∃ k : Nat, k ≤ s ∧ c = s - k ∧ t = .int .i64 ((k : Int) + 1) ∧ Env w.heap.size w wr g b I J L jJ ∧ WalkAt wr h g jJ (powI k I) (k : Int))
  case atStart => exact ⟨0, by omega, by omega, rfl, hE4, hw4⟩
  case round =>
    obtain ⟨k, hk, hc, rfl, hE, hW⟩ := hrel
    clear hE4 hw4
    by_cases hlt : k < s
    · have g0 : (k : Int) + 1 ≤ (s : Int) := by omega
      have k0 : (0 : Int) ≤ (k : Int) := by omega
      have k1 : (k : Int) ≤ 4096 := by omega
      go_wp2_with fail
      go_cut [15] (fun s15 x => ∃ b15 : Nat, s15 = .pointer (some ⟨b15, 0, none⟩) ∧ h < b15 ∧ b < b15 ∧ g < b15 ∧ w.heap.size + 1 + 1 < b15 ∧ Env w.heap.size w x g b I J L jJ ∧ WalkAt x h g jJ (powI k I) (k : Int) ∧ Holds16 x b15 29 (Gf.fx (Gf.fx jJ (Gf.dbls ((k + 1 + 7) / 8) I)) (Gf.mul ((k + 1) % 8) L)))
      case first =>
        refine wp_region_noPanic ?_
        refine wp_region_held_drew (S := fun x => Env w.heap.size w x g b I J L jJ ∧ WalkAt x h g jJ (powI k I) (k : Int)) (by kernel_rfl) ⟨hE.drew, hW⟩ (fun hHeld => ?_)
        refine Held.take (i := 0) (some 38) (.agg (bl jJ).toArray) rfl rfl (by kernel_rfl) (by kernel_rfl) (by kernel_rfl) (fun _ _ _ h => h) (Held.yields_load (by rfl) _ _ rfl _ _ rfl (bl jJ) _ (fun _ h => h.1.hj.range) Trym.underlying29 rfl (info29l _)) hHeld ?_
        simp only [Act.put, List.setIfInBounds_toArray, List.set_cons_zero, List.set_cons_succ]
        refine Held.take (i := 1) (some 39) (.agg (bl I).toArray) rfl rfl (by kernel_rfl) (by kernel_rfl) (by kernel_rfl) (fun _ _ _ h => h) (Held.yields_load (by rfl) _ _ rfl _ _ rfl (bl I) _ (fun _ h => h.1.hI.range) Trym.underlying29 rfl (info29l _)) hHeld ?_
        simp only [Act.put, List.setIfInBounds_toArray, List.set_cons_zero, List.set_cons_succ]
        refine Held.take (i := 2) (some 40) (.int .i64 ((k : Int) + 1)) rfl rfl (by kernel_rfl) (by kernel_rfl) (by kernel_rfl) (fun _ _ _ h => h) (Held.yields_move (by rfl) (.tmp 14) (.inl rfl)) hHeld ?_
        simp only [Act.put, List.setIfInBounds_toArray, List.set_cons_zero, List.set_cons_succ]
        refine Held.take (i := 5) (some 43) (.int .i64 ((k : Int) + 1)) rfl rfl (by kernel_rfl) (by kernel_rfl) (by kernel_rfl) (fun _ _ _ h => h) (Held.yields_move (by rfl) (.tmp 14) (.inl rfl)) hHeld ?_
        simp only [Act.put, List.setIfInBounds_toArray, List.set_cons_zero, List.set_cons_succ]
        refine Held.take (i := 6) (some 44) (.int .i64 (((k + 1) % 8 : Nat) : Int)) rfl rfl (by kernel_rfl) (by kernel_rfl) (by kernel_rfl) (fun _ _ _ h => h) (Held.yields_binOp (by rfl) _ _ _ _ _ rfl _ _ _ rfl rfl (rem8 (k + 1) _ _)) hHeld ?_
        simp only [Act.put, List.setIfInBounds_toArray, List.set_cons_zero, List.set_cons_succ]
        refine Held.take (i := 7) (some 45) (.int .u64 (((k + 1) % 8 : Nat) : Int)) rfl rfl (by kernel_rfl) (by kernel_rfl) (by kernel_rfl) (fun _ _ _ h => h) (Held.yields_convert (by rfl) _ _ _ rfl _ _ rfl (conv35 _ (by omega))) hHeld ?_
        simp only [Act.put, List.setIfInBounds_toArray, List.set_cons_zero, List.set_cons_succ]
        refine Held.take (i := 8) (some 46) (.agg (bl L).toArray) rfl rfl (by kernel_rfl) (by kernel_rfl) (by kernel_rfl) (fun _ _ _ h => h) (Held.yields_load (by rfl) _ _ rfl _ _ rfl (bl L) _ (fun _ h => h.1.hL.range) Trym.underlying29 rfl (info29l _)) hHeld ?_
        simp only [Act.put, List.setIfInBounds_toArray, List.set_cons_zero, List.set_cons_succ]
        have e1 : Env w.heap.size w (wr.drew.alloc (.cells (bl Gf.zero).toArray 29)) g b I J L jJ ∧ WalkAt (wr.drew.alloc (.cells (bl Gf.zero).toArray 29)) h g jJ (powI k I) (k : Int) := ⟨hHeld.1.alloc (Nat.le_refl _) _, heap_alloc hHeld.2 _⟩
        have q1 : Holds16 (wr.drew.alloc (.cells (bl Gf.zero).toArray 29)) wr.drew.heap.size 29 Gf.zero := Holds16.new wr.drew 29 Gf.zero
        have r1 : b < wr.drew.heap.size := hHeld.1.hj.lt
        have t1 : h < wr.drew.heap.size := heap_lt hHeld.2
        have v1 : g < wr.drew.heap.size := heap_lt hHeld.1.key
        have y1 : w.heap.size + 1 + 1 < wr.drew.heap.size := hHeld.1.hL.lt
        refine Held.ready_call_alloc (i := 3) (j := 11) (some 41) 19 _ _ #[.agg (bl I).toArray, .int .i64 ((k + 1 : Nat) : Int)] (some 15) 29 _ rfl rfl rfl rfl rfl rfl rfl rfl (by kernel_rfl) (by simp [Act.eval]) Trym.call19 alloc29 e1 ?_ ?_
        · simp only [Act.put, List.setIfInBounds_toArray, List.set_cons_zero, List.set_cons_succ]
          refine Held.ready_call (i := 3) (some 41) 19 _ _ #[.agg (bl I).toArray, .int .i64 ((k + 1 : Nat) : Int)] rfl rfl rfl rfl (by kernel_rfl) (by simp [Act.eval]) Trym.call19 ?_
          refine (gfPowI_calls (k + 1) I _ (by omega) hI).mono ?_
          rintro e x2 ⟨rfl, hb2⟩
          have e2 : Env w.heap.size w x2 g b I J L jJ ∧ WalkAt x2 h g jJ (powI k I) (k : Int) := ⟨e1.1.after (Nat.le_refl _) hb2, heap_after hb2 e1.2⟩
          have q2 : Holds16 x2 wr.drew.heap.size 29 Gf.zero := heap_after hb2 q1
          refine ⟨_, rfl, e2, ?_⟩
          clear hb2
          simp only [Act.put, List.setIfInBounds_toArray, List.set_cons_zero, List.set_cons_succ]
          refine Held.ready_call (i := 4) (some 42) 18 _ _ #[.agg (bl jJ).toArray, .agg (bl (Gf.dbls ((k + 1 + 7) / 8) I)).toArray] rfl rfl rfl rfl (by kernel_rfl) (by simp [Act.eval]) Trym.call18 ?_
          refine (xorB_calls jJ (Gf.dbls ((k + 1 + 7) / 8) I) _ hjB (Gf.byte_dbls hI _)).mono ?_
          rintro e x3 ⟨rfl, hb3⟩
          have e3 : Env w.heap.size w x3 g b I J L jJ ∧ WalkAt x3 h g jJ (powI k I) (k : Int) := ⟨e2.1.after (Nat.le_refl _) hb3, heap_after hb3 e2.2⟩
          have q3 : Holds16 x3 wr.drew.heap.size 29 Gf.zero := heap_after hb3 q2
          refine ⟨_, rfl, e3, ?_⟩
          clear hb3
          simp only [Act.put, List.setIfInBounds_toArray, List.set_cons_zero, List.set_cons_succ]
          refine Held.ready_call (i := 9) (some 47) 17 _ _ #[.int .u64 (((k + 1) % 8 : Nat) : Int), .agg (bl L).toArray] rfl rfl rfl rfl (by kernel_rfl) (by simp [Act.eval]) Trym.call17 ?_
          refine (gfMul_calls ((k + 1) % 8) L _ (by omega) hL).mono ?_
          rintro e x4 ⟨rfl, hb4⟩
          have e4 : Env w.heap.size w x4 g b I J L jJ ∧ WalkAt x4 h g jJ (powI k I) (k : Int) := ⟨e3.1.after (Nat.le_refl _) hb4, heap_after hb4 e3.2⟩
          have q4 : Holds16 x4 wr.drew.heap.size 29 Gf.zero := heap_after hb4 q3
          refine ⟨_, rfl, e4, ?_⟩
          clear hb4
          simp only [Act.put, List.setIfInBounds_toArray, List.set_cons_zero, List.set_cons_succ]
          refine Held.ready_call (i := 10) (some 48) 18 _ _ #[.agg (bl (Gf.fx jJ (Gf.dbls ((k + 1 + 7) / 8) I))).toArray, .agg (bl (Gf.mul ((k + 1) % 8) L)).toArray] rfl rfl rfl rfl (by kernel_rfl) (by simp [Act.eval]) Trym.call18 ?_
          refine (xorB_calls (Gf.fx jJ (Gf.dbls ((k + 1 + 7) / 8) I)) (Gf.mul ((k + 1) % 8) L) _ (Gf.byte_fx hjB (Gf.byte_dbls hI _)) (hjl _)).mono ?_
          rintro e x5 ⟨rfl, hb5⟩
          have e5 : Env w.heap.size w x5 g b I J L jJ ∧ WalkAt x5 h g jJ (powI k I) (k : Int) := ⟨e4.1.after (Nat.le_refl _) hb5, heap_after hb5 e4.2⟩
          have q5 : Holds16 x5 wr.drew.heap.size 29 Gf.zero := heap_after hb5 q4
          refine ⟨_, rfl, e5, ?_⟩
          clear hb5
          simp only [Act.put, List.setIfInBounds_toArray, List.set_cons_zero, List.set_cons_succ]
          refine Held.ready_store (i := 12) 29 _ _ wr.drew.heap.size _ _ 29 rfl rfl rfl rfl (by kernel_rfl) rfl rfl q5 (info29 _) (by rw [bl_size, bl_size]) (bl_all _) ⟨e5.1.setRow _ _ (by omega) (by omega) (by omega) (by omega) (by omega), (setRow_other _ _ h _ (by omega)).trans e5.2⟩ ?_
          refine wpAnyH_done (by kernel_rfl) ?_ _
          refine NoPanic.normal ?_
          go_wp2_with fail
          go_meet
          case rel => exact ⟨wr.drew.heap.size, rfl, by omega, by omega, by omega, by omega, e5.1.setRow _ _ (by omega) (by omega) (by omega) (by omega) (by omega), (setRow_other _ _ h _ (by omega)).trans e5.2, q5.setRow _⟩
        · clear e1 q1 r1 t1 v1 y1
          refine (gfPowI_calls (k + 1) I _ (by omega) hI).mono ?_
          rintro e x6 ⟨rfl, hb6⟩
          have e6 : Env w.heap.size w x6 g b I J L jJ ∧ WalkAt x6 h g jJ (powI k I) (k : Int) := ⟨hHeld.1.after (Nat.le_refl _) hb6, heap_after hb6 hHeld.2⟩
          refine ⟨_, rfl, e6, ?_⟩
          clear hb6
          simp only [Act.put, List.setIfInBounds_toArray, List.set_cons_zero, List.set_cons_succ]
          have e7 : Env w.heap.size w (x6.alloc (.cells (bl Gf.zero).toArray 29)) g b I J L jJ ∧ WalkAt (x6.alloc (.cells (bl Gf.zero).toArray 29)) h g jJ (powI k I) (k : Int) := ⟨e6.1.alloc (Nat.le_refl _) _, heap_alloc e6.2 _⟩
          have q7 : Holds16 (x6.alloc (.cells (bl Gf.zero).toArray 29)) x6.heap.size 29 Gf.zero := Holds16.new x6 29 Gf.zero
          have r7 : b < x6.heap.size := e6.1.hj.lt
          have t7 : h < x6.heap.size := heap_lt e6.2
          have v7 : g < x6.heap.size := heap_lt e6.1.key
          have y7 : w.heap.size + 1 + 1 < x6.heap.size := e6.1.hL.lt
          refine Held.ready_call_alloc (i := 4) (j := 11) (some 42) 18 _ _ #[.agg (bl jJ).toArray, .agg (bl (Gf.dbls ((k + 1 + 7) / 8) I)).toArray] (some 15) 29 _ rfl rfl rfl rfl rfl rfl rfl rfl (by kernel_rfl) (by simp [Act.eval]) Trym.call18 alloc29 e7 ?_ ?_
          · simp only [Act.put, List.setIfInBounds_toArray, List.set_cons_zero, List.set_cons_succ]
            refine Held.ready_call (i := 4) (some 42) 18 _ _ #[.agg (bl jJ).toArray, .agg (bl (Gf.dbls ((k + 1 + 7) / 8) I)).toArray] rfl rfl rfl rfl (by kernel_rfl) (by simp [Act.eval]) Trym.call18 ?_
            refine (xorB_calls jJ (Gf.dbls ((k + 1 + 7) / 8) I) _ hjB (Gf.byte_dbls hI _)).mono ?_
            rintro e x8 ⟨rfl, hb8⟩
            have e8 : Env w.heap.size w x8 g b I J L jJ ∧ WalkAt x8 h g jJ (powI k I) (k : Int) := ⟨e7.1.after (Nat.le_refl _) hb8, heap_after hb8 e7.2⟩
            have q8 : Holds16 x8 x6.heap.size 29 Gf.zero := heap_after hb8 q7
            refine ⟨_, rfl, e8, ?_⟩
            clear hb8
            simp only [Act.put, List.setIfInBounds_toArray, List.set_cons_zero, List.set_cons_succ]
            refine Held.ready_call (i := 9) (some 47) 17 _ _ #[.int .u64 (((k + 1) % 8 : Nat) : Int), .agg (bl L).toArray] rfl rfl rfl rfl (by kernel_rfl) (by simp [Act.eval]) Trym.call17 ?_
            refine (gfMul_calls ((k + 1) % 8) L _ (by omega) hL).mono ?_
            rintro e x9 ⟨rfl, hb9⟩
            have e9 : Env w.heap.size w x9 g b I J L jJ ∧ WalkAt x9 h g jJ (powI k I) (k : Int) := ⟨e8.1.after (Nat.le_refl _) hb9, heap_after hb9 e8.2⟩
            have q9 : Holds16 x9 x6.heap.size 29 Gf.zero := heap_after hb9 q8
            refine ⟨_, rfl, e9, ?_⟩
            clear hb9
            simp only [Act.put, List.setIfInBounds_toArray, List.set_cons_zero, List.set_cons_succ]
            refine Held.ready_call (i := 10) (some 48) 18 _ _ #[.agg (bl (Gf.fx jJ (Gf.dbls ((k + 1 + 7) / 8) I))).toArray, .agg (bl (Gf.mul ((k + 1) % 8) L)).toArray] rfl rfl rfl rfl (by kernel_rfl) (by simp [Act.eval]) Trym.call18 ?_
            refine (xorB_calls (Gf.fx jJ (Gf.dbls ((k + 1 + 7) / 8) I)) (Gf.mul ((k + 1) % 8) L) _ (Gf.byte_fx hjB (Gf.byte_dbls hI _)) (hjl _)).mono ?_
            rintro e x10 ⟨rfl, hb10⟩
            have e10 : Env w.heap.size w x10 g b I J L jJ ∧ WalkAt x10 h g jJ (powI k I) (k : Int) := ⟨e9.1.after (Nat.le_refl _) hb10, heap_after hb10 e9.2⟩
            have q10 : Holds16 x10 x6.heap.size 29 Gf.zero := heap_after hb10 q9
            refine ⟨_, rfl, e10, ?_⟩
            clear hb10
            simp only [Act.put, List.setIfInBounds_toArray, List.set_cons_zero, List.set_cons_succ]
            refine Held.ready_store (i := 12) 29 _ _ x6.heap.size _ _ 29 rfl rfl rfl rfl (by kernel_rfl) rfl rfl q10 (info29 _) (by rw [bl_size, bl_size]) (bl_all _) ⟨e10.1.setRow _ _ (by omega) (by omega) (by omega) (by omega) (by omega), (setRow_other _ _ h _ (by omega)).trans e10.2⟩ ?_
            refine wpAnyH_done (by kernel_rfl) ?_ _
            refine NoPanic.normal ?_
            go_wp2_with fail
            go_meet
            case rel => exact ⟨x6.heap.size, rfl, by omega, by omega, by omega, by omega, e10.1.setRow _ _ (by omega) (by omega) (by omega) (by omega) (by omega), (setRow_other _ _ h _ (by omega)).trans e10.2, q10.setRow _⟩
          · clear e7 q7 r7 t7 v7 y7
            refine (xorB_calls jJ (Gf.dbls ((k + 1 + 7) / 8) I) _ hjB (Gf.byte_dbls hI _)).mono ?_
            rintro e x11 ⟨rfl, hb11⟩
            have e11 : Env w.heap.size w x11 g b I J L jJ ∧ WalkAt x11 h g jJ (powI k I) (k : Int) := ⟨e6.1.after (Nat.le_refl _) hb11, heap_after hb11 e6.2⟩
            refine ⟨_, rfl, e11, ?_⟩
            clear hb11
            simp only [Act.put, List.setIfInBounds_toArray, List.set_cons_zero, List.set_cons_succ]
            have e12 : Env w.heap.size w (x11.alloc (.cells (bl Gf.zero).toArray 29)) g b I J L jJ ∧ WalkAt (x11.alloc (.cells (bl Gf.zero).toArray 29)) h g jJ (powI k I) (k : Int) := ⟨e11.1.alloc (Nat.le_refl _) _, heap_alloc e11.2 _⟩
            have q12 : Holds16 (x11.alloc (.cells (bl Gf.zero).toArray 29)) x11.heap.size 29 Gf.zero := Holds16.new x11 29 Gf.zero
            have r12 : b < x11.heap.size := e11.1.hj.lt
            have t12 : h < x11.heap.size := heap_lt e11.2
            have v12 : g < x11.heap.size := heap_lt e11.1.key
            have y12 : w.heap.size + 1 + 1 < x11.heap.size := e11.1.hL.lt
            refine Held.ready_call_alloc (i := 9) (j := 11) (some 47) 17 _ _ #[.int .u64 (((k + 1) % 8 : Nat) : Int), .agg (bl L).toArray] (some 15) 29 _ rfl rfl rfl rfl rfl rfl rfl rfl (by kernel_rfl) (by simp [Act.eval]) Trym.call17 alloc29 e12 ?_ ?_
            · simp only [Act.put, List.setIfInBounds_toArray, List.set_cons_zero, List.set_cons_succ]
              refine Held.ready_call (i := 9) (some 47) 17 _ _ #[.int .u64 (((k + 1) % 8 : Nat) : Int), .agg (bl L).toArray] rfl rfl rfl rfl (by kernel_rfl) (by simp [Act.eval]) Trym.call17 ?_
              refine (gfMul_calls ((k + 1) % 8) L _ (by omega) hL).mono ?_
              rintro e x13 ⟨rfl, hb13⟩
              have e13 : Env w.heap.size w x13 g b I J L jJ ∧ WalkAt x13 h g jJ (powI k I) (k : Int) := ⟨e12.1.after (Nat.le_refl _) hb13, heap_after hb13 e12.2⟩
              have q13 : Holds16 x13 x11.heap.size 29 Gf.zero := heap_after hb13 q12
              refine ⟨_, rfl, e13, ?_⟩
              clear hb13
              simp only [Act.put, List.setIfInBounds_toArray, List.set_cons_zero, List.set_cons_succ]
              refine Held.ready_call (i := 10) (some 48) 18 _ _ #[.agg (bl (Gf.fx jJ (Gf.dbls ((k + 1 + 7) / 8) I))).toArray, .agg (bl (Gf.mul ((k + 1) % 8) L)).toArray] rfl rfl rfl rfl (by kernel_rfl) (by simp [Act.eval]) Trym.call18 ?_
              refine (xorB_calls (Gf.fx jJ (Gf.dbls ((k + 1 + 7) / 8) I)) (Gf.mul ((k + 1) % 8) L) _ (Gf.byte_fx hjB (Gf.byte_dbls hI _)) (hjl _)).mono ?_
              rintro e x14 ⟨rfl, hb14⟩
              have e14 : Env w.heap.size w x14 g b I J L jJ ∧ WalkAt x14 h g jJ (powI k I) (k : Int) := ⟨e13.1.after (Nat.le_refl _) hb14, heap_after hb14 e13.2⟩
              have q14 : Holds16 x14 x11.heap.size 29 Gf.zero := heap_after hb14 q13
              refine ⟨_, rfl, e14, ?_⟩
              clear hb14
              simp only [Act.put, List.setIfInBounds_toArray, List.set_cons_zero, List.set_cons_succ]
              refine Held.ready_store (i := 12) 29 _ _ x11.heap.size _ _ 29 rfl rfl rfl rfl (by kernel_rfl) rfl rfl q14 (info29 _) (by rw [bl_size, bl_size]) (bl_all _) ⟨e14.1.setRow _ _ (by omega) (by omega) (by omega) (by omega) (by omega), (setRow_other _ _ h _ (by omega)).trans e14.2⟩ ?_
              refine wpAnyH_done (by kernel_rfl) ?_ _
              refine NoPanic.normal ?_
              go_wp2_with fail
              go_meet
              case rel => exact ⟨x11.heap.size, rfl, by omega, by omega, by omega, by omega, e14.1.setRow _ _ (by omega) (by omega) (by omega) (by omega) (by omega), (setRow_other _ _ h _ (by omega)).trans e14.2, q14.setRow _⟩
            · clear e12 q12 r12 t12 v12 y12
              refine (gfMul_calls ((k + 1) % 8) L _ (by omega) hL).mono ?_
              rintro e x15 ⟨rfl, hb15⟩
              have e15 : Env w.heap.size w x15 g b I J L jJ ∧ WalkAt x15 h g jJ (powI k I) (k : Int) := ⟨e11.1.after (Nat.le_refl _) hb15, heap_after hb15 e11.2⟩
              refine ⟨_, rfl, e15, ?_⟩
              clear hb15
              simp only [Act.put, List.setIfInBounds_toArray, List.set_cons_zero, List.set_cons_succ]
              have e16 : Env w.heap.size w (x15.alloc (.cells (bl Gf.zero).toArray 29)) g b I J L jJ ∧ WalkAt (x15.alloc (.cells (bl Gf.zero).toArray 29)) h g jJ (powI k I) (k : Int) := ⟨e15.1.alloc (Nat.le_refl _) _, heap_alloc e15.2 _⟩
              have q16 : Holds16 (x15.alloc (.cells (bl Gf.zero).toArray 29)) x15.heap.size 29 Gf.zero := Holds16.new x15 29 Gf.zero
              have r16 : b < x15.heap.size := e15.1.hj.lt
              have t16 : h < x15.heap.size := heap_lt e15.2
              have v16 : g < x15.heap.size := heap_lt e15.1.key
              have y16 : w.heap.size + 1 + 1 < x15.heap.size := e15.1.hL.lt
              refine Held.ready_call_alloc (i := 10) (j := 11) (some 48) 18 _ _ #[.agg (bl (Gf.fx jJ (Gf.dbls ((k + 1 + 7) / 8) I))).toArray, .agg (bl (Gf.mul ((k + 1) % 8) L)).toArray] (some 15) 29 _ rfl rfl rfl rfl rfl rfl rfl rfl (by kernel_rfl) (by simp [Act.eval]) Trym.call18 alloc29 e16 ?_ ?_
              · simp only [Act.put, List.setIfInBounds_toArray, List.set_cons_zero, List.set_cons_succ]
                refine Held.ready_call (i := 10) (some 48) 18 _ _ #[.agg (bl (Gf.fx jJ (Gf.dbls ((k + 1 + 7) / 8) I))).toArray, .agg (bl (Gf.mul ((k + 1) % 8) L)).toArray] rfl rfl rfl rfl (by kernel_rfl) (by simp [Act.eval]) Trym.call18 ?_
                refine (xorB_calls (Gf.fx jJ (Gf.dbls ((k + 1 + 7) / 8) I)) (Gf.mul ((k + 1) % 8) L) _ (Gf.byte_fx hjB (Gf.byte_dbls hI _)) (hjl _)).mono ?_
                rintro e x17 ⟨rfl, hb17⟩
                have e17 : Env w.heap.size w x17 g b I J L jJ ∧ WalkAt x17 h g jJ (powI k I) (k : Int) := ⟨e16.1.after (Nat.le_refl _) hb17, heap_after hb17 e16.2⟩
                have q17 : Holds16 x17 x15.heap.size 29 Gf.zero := heap_after hb17 q16
                refine ⟨_, rfl, e17, ?_⟩
                clear hb17
                simp only [Act.put, List.setIfInBounds_toArray, List.set_cons_zero, List.set_cons_succ]
                refine Held.ready_store (i := 12) 29 _ _ x15.heap.size _ _ 29 rfl rfl rfl rfl (by kernel_rfl) rfl rfl q17 (info29 _) (by rw [bl_size, bl_size]) (bl_all _) ⟨e17.1.setRow _ _ (by omega) (by omega) (by omega) (by omega) (by omega), (setRow_other _ _ h _ (by omega)).trans e17.2⟩ ?_
                refine wpAnyH_done (by kernel_rfl) ?_ _
                refine NoPanic.normal ?_
                go_wp2_with fail
                go_meet
                case rel => exact ⟨x15.heap.size, rfl, by omega, by omega, by omega, by omega, e17.1.setRow _ _ (by omega) (by omega) (by omega) (by omega) (by omega), (setRow_other _ _ h _ (by omega)).trans e17.2, q17.setRow _⟩
              · clear e16 q16 r16 t16 v16 y16
                refine (xorB_calls (Gf.fx jJ (Gf.dbls ((k + 1 + 7) / 8) I)) (Gf.mul ((k + 1) % 8) L) _ (Gf.byte_fx hjB (Gf.byte_dbls hI _)) (hjl _)).mono ?_
                rintro e x18 ⟨rfl, hb18⟩
                have e18 : Env w.heap.size w x18 g b I J L jJ ∧ WalkAt x18 h g jJ (powI k I) (k : Int) := ⟨e15.1.after (Nat.le_refl _) hb18, heap_after hb18 e15.2⟩
                refine ⟨_, rfl, e18, ?_⟩
                clear hb18
                simp only [Act.put, List.setIfInBounds_toArray, List.set_cons_zero, List.set_cons_succ]
                have e19 : Env w.heap.size w (x18.alloc (.cells (bl Gf.zero).toArray 29)) g b I J L jJ ∧ WalkAt (x18.alloc (.cells (bl Gf.zero).toArray 29)) h g jJ (powI k I) (k : Int) := ⟨e18.1.alloc (Nat.le_refl _) _, heap_alloc e18.2 _⟩
                have q19 : Holds16 (x18.alloc (.cells (bl Gf.zero).toArray 29)) x18.heap.size 29 Gf.zero := Holds16.new x18 29 Gf.zero
                have r19 : b < x18.heap.size := e18.1.hj.lt
                have t19 : h < x18.heap.size := heap_lt e18.2
                have v19 : g < x18.heap.size := heap_lt e18.1.key
                have y19 : w.heap.size + 1 + 1 < x18.heap.size := e18.1.hL.lt
                refine Held.ready_alloc (i := 11) (some 15) 29 _ rfl rfl rfl rfl (by kernel_rfl) alloc29 e19 ?_
                simp only [Act.put, List.setIfInBounds_toArray, List.set_cons_zero, List.set_cons_succ]
                refine Held.ready_store (i := 12) 29 _ _ x18.heap.size _ _ 29 rfl rfl rfl rfl (by kernel_rfl) rfl rfl q19 (info29 _) (by rw [bl_size, bl_size]) (bl_all _) ⟨e19.1.setRow _ _ (by omega) (by omega) (by omega) (by omega) (by omega), (setRow_other _ _ h _ (by omega)).trans e19.2⟩ ?_
                refine wpAnyH_done (by kernel_rfl) ?_ _
                refine NoPanic.normal ?_
                go_wp2_with fail
                go_meet
                case rel => exact ⟨x18.heap.size, rfl, by omega, by omega, by omega, by omega, e19.1.setRow _ _ (by omega) (by omega) (by omega) (by omega) (by omega), (setRow_other _ _ h _ (by omega)).trans e19.2, q19.setRow _⟩
      case rest =>
        obtain ⟨b15, rfl, p1, p2, p3, p4, hE2, hW2, hX⟩ := hcut
        clear hE hW
        have hWB : Gf.Byte (Gf.fx (Gf.fx jJ (Gf.dbls ((k + 1 + 7) / 8) I)) (Gf.mul ((k + 1) % 8) L)) := Gf.byte_fx (Gf.byte_fx hjB (Gf.byte_dbls hI _)) (hjl _)
        have HP : Hid (nextP k (powI k I) = Gf.dbls ((k + 1 + 7) / 8) I) := (powI_next k I).trans (powI_succ k I)
        go_wp2_with fail
        refine wp_region_noPanic ?_
        refine wp_region_held_drew (S := fun x => Env w.heap.size w x g b I J L jJ ∧ Holds16 x b15 29 (Gf.fx (Gf.fx jJ (Gf.dbls ((k + 1 + 7) / 8) I)) (Gf.mul ((k + 1) % 8) L))) (by kernel_rfl) ⟨hE2.drew, hX⟩ (fun hHeld => ?_)
        refine Held.take (i := 0) (some 49) (.pointer (some ⟨h, 0, none⟩)) rfl rfl (by kernel_rfl) (by kernel_rfl) (by kernel_rfl) (fun _ _ _ h => h) (Held.yields_move (by rfl) (.tmp 12) (.inl rfl)) hHeld ?_
        simp only [Act.put, List.setIfInBounds_toArray, List.set_cons_zero, List.set_cons_succ]
        refine Held.take (i := 2) (some 51) (.agg (bl (Gf.fx (Gf.fx jJ (Gf.dbls ((k + 1 + 7) / 8) I)) (Gf.mul ((k + 1) % 8) L))).toArray) rfl rfl (by kernel_rfl) (by kernel_rfl) (by kernel_rfl) (fun _ _ _ h => h) (Held.yields_load (by rfl) _ _ rfl _ _ rfl (bl (Gf.fx (Gf.fx jJ (Gf.dbls ((k + 1 + 7) / 8) I)) (Gf.mul ((k + 1) % 8) L))) _ (fun _ h => h.2.range) Trym.underlying29 rfl (info29l _)) hHeld ?_
        simp only [Act.put, List.setIfInBounds_toArray, List.set_cons_zero, List.set_cons_succ]
        refine Held.ready_call (i := 1) (some 50) 20 _ _ #[.pointer (some ⟨h, 0, none⟩)] rfl rfl rfl rfl (by kernel_rfl) (by simp [Act.eval]) Trym.call20 ?_
        refine (zznext_calls g h k jJ (powI k I) I J (fun n => Gf.mul n L) _ (by omega) (by omega) hjB (byte_powI hI k) hjl hHeld.1.key hW2).mono ?_
        rintro e x ⟨rfl, hWx, hKx⟩
        rw [powI_next] at hWx
        rw [HP.out]
        have hEx := hHeld.1.kept hKx (by omega) (Nat.le_refl _) (by omega) (by omega) (by omega) (by omega)
        have hXx : Holds16 x b15 29 (Gf.fx (Gf.fx jJ (Gf.dbls ((k + 1 + 7) / 8) I)) (Gf.mul ((k + 1) % 8) L)) := hKx.holds hHeld.2 (by omega)
        refine ⟨_, rfl, ⟨hEx, hXx⟩, ?_⟩
        clear hKx hHeld hE2 hW2 hX
        simp only [Act.put, List.setIfInBounds_toArray, List.set_cons_zero, List.set_cons_succ]
        refine Held.take (i := 3) (some 52) (.bool false) rfl rfl (by kernel_rfl) (by kernel_rfl) (by kernel_rfl) (fun _ _ _ h => h) (Held.yields_binOp (by rfl) _ _ _ _ _ rfl _ _ _ rfl rfl (neq29 _ hWB _ _)) ⟨hEx, hXx⟩ ?_
        simp only [Act.put, List.setIfInBounds_toArray, List.set_cons_zero, List.set_cons_succ]
        refine wpAnyH_done (by kernel_rfl) ?_ _
        refine NoPanic.normal ?_
        clear hWB HP hXx
        go_wp2_with fail
        go_roundg (s - (k + 1))
        case measure => omega
        case rel => exact ⟨k + 1, by omega, rfl, by go_num, hEx, by rw [Int.natCast_add] at hWx ⊢; exact hWx⟩
    · have g0 : ¬ (k : Int) + 1 ≤ (s : Int) := by omega
      go_wp2_with fail
      go_ret
      exact ⟨rfl, hE.below⟩

set_option maxHeartbeats 1000000 in
theorem law4_out (I J L : Nat → Nat) (j s : Int) (w : World) (hs : s < 0 ∨ 4096 < s) :
    Calls Trym.prog 4 #[.agg (bl I).toArray, .agg (bl J).toArray, .agg (bl L).toArray, .int .i64 j, .int .i64 s] w fun e w' => e = .returned (.bool true) ∧ Below w.heap.size w w' := by
  by_cases h0 : s < 0
  · clear hs
    go_enter Trym.func4, Trym.ntmps4
    go_wp2_with fail
    go_ret
    exact ⟨rfl, (((Below.refl _ _).alloc (Nat.le_refl _) _).alloc (by simp) _).alloc (by simp; omega) _⟩
  · have h1 : (4096 : Int) < s := by omega
    have h0' : decide (s < 0) = false := by simp; omega
    clear hs h0
    go_enter Trym.func4, Trym.ntmps4
    go_wp2_with fail
    go_ret
    exact ⟨rfl, (((Below.refl _ _).alloc (Nat.le_refl _) _).alloc (by simp) _).alloc (by simp; omega) _⟩

theorem law4_walk (I J L : Nat → Nat) (j s : Int) (w : World) (hI : Gf.Byte I) (hJ : Gf.Byte J) (hL : Gf.Byte L) :
    Calls Trym.prog 4 #[.agg (bl I).toArray, .agg (bl J).toArray, .agg (bl L).toArray, .int .i64 j, .int .i64 s] w fun e w' => e = .returned (.bool true) ∧ Below w.heap.size w w' := by
  by_cases hs : s < 0 ∨ 4096 < s
  · exact law4_out I J L j s w hs
  · obtain ⟨n, rfl⟩ := Int.eq_ofNat_of_zero_le (show 0 ≤ s by omega)
    exact law4_core I J L j (j % 18446744073709551616).toNat n w hI hJ hL (by omega) (by omega) (by omega)

end Go.Proofs.Qxb6614255aMods
