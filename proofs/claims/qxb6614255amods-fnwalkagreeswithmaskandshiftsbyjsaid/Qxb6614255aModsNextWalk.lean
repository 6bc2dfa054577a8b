import Derived.Test.Qxb6614255aModsWalkWalk
namespace Go.Proofs.Qxb6614255aMods
open Go.ChangeShapes Go.WideShapes Go.ChangeAt Go.RowKit

theorem field61_0 (g : Nat) (w : World) : (Instr.fieldAt 61 (.pointer (some ⟨g, 0, none⟩)) 0).run Trym.prog w = .ok (.pointer (some ⟨g, 0, none⟩)) w := by kernel_rfl
theorem field61_1 (g : Nat) (w : World) : (Instr.fieldAt 61 (.pointer (some ⟨g, 0, none⟩)) 1).run Trym.prog w = .ok (.pointer (some ⟨g, 1, none⟩)) w := by kernel_rfl
theorem field61_2 (g : Nat) (w : World) : (Instr.fieldAt 61 (.pointer (some ⟨g, 0, none⟩)) 2).run Trym.prog w = .ok (.pointer (some ⟨g, 17, none⟩)) w := by kernel_rfl
theorem field61_3 (g : Nat) (w : World) : (Instr.fieldAt 61 (.pointer (some ⟨g, 0, none⟩)) 3).run Trym.prog w = .ok (.pointer (some ⟨g, 33, none⟩)) w := by kernel_rfl
theorem field59_2 (g : Nat) (w : World) : (Instr.fieldAt 59 (.pointer (some ⟨g, 0, none⟩)) 2).run Trym.prog w = .ok (.pointer (some ⟨g, 32, none⟩)) w := by kernel_rfl
theorem index57 (g k : Nat) (hk : k < 8) (w : World) : (Instr.indexAt 57 (.pointer (some ⟨g, 32, none⟩)) (.int .i64 (k : Int))).run Trym.prog w = .ok (.pointer (some ⟨g, 32 + k * 16, none⟩)) w := by
  have h1 : (k : Int) < 8 := by omega
  simp [go_sem, h1]
theorem rem8 (m : Nat) (x y : Operand) (w : World) : (do eqGuard .rem 3 x y (.int .i64 (m : Int)) (.int .i64 8); binOp .rem 3 (.int .i64 (m : Int)) (.int .i64 8) : Sem Value).run Trym.prog w = .ok (.int .i64 ((m % 8 : Nat) : Int)) w := by
  simp [go_sem]
  exact Int.tmod_eq_emod_of_nonneg (by omega)
theorem load_ptr (p : Addr) (v : Value) (w : World) (h : w.cell? p = some v) : (Instr.loadAt 30 (.pointer (some p))).run Trym.prog w = .ok v w := by
  simp [go_sem, h]
theorem load_int (p : Addr) (v : Value) (w : World) (h : w.cell? p = some v) : (Instr.loadAt 3 (.pointer (some p))).run Trym.prog w = .ok v w := by
  simp [go_sem, h]

/-! ### the walk's struct, turned -/
def setFrom (cs : List Value) : Nat → List Value → List Value
  | _, [] => cs
  | o, v :: r => setFrom (cs.set o v) (o + 1) r
theorem setFrom_part : ∀ (mid' mid pre post : List Value), mid'.length = mid.length → setFrom (pre ++ (mid ++ post)) pre.length mid' = pre ++ (mid' ++ post)
  | [], mid, pre, post, h => by
    have : mid = [] := by cases mid with | nil => rfl | cons _ _ => simp at h
    subst this; rfl
  | v :: r, mid, pre, post, h => by
    cases mid with
    | nil => simp at h
    | cons m ms =>
      have ih := setFrom_part r ms (pre ++ [v]) post (by simpa using h)
      simp only [setFrom]
      have e : (pre ++ (m :: ms ++ post)).set pre.length v = (pre ++ [v]) ++ (ms ++ post) := by
        rw [List.set_append_right _ _ (Nat.le_refl _)]
        simp
      rw [e]
      have e2 : pre.length + 1 = (pre ++ [v]).length := by simp
      rw [e2, ih]
      simp
theorem heap_setCells (t : TypeId) (b : Nat) : ∀ (vs : List Value) (o : Nat) (cs : List Value) (w : World), w.heap[b]? = some (.cells cs.toArray t (0, 0)) → (w.setCells b o vs).heap[b]? = some (.cells (setFrom cs o vs).toArray t (0, 0))
  | [], _, _, _, h => h
  | v :: r, o, cs, w, h => by
    rw [World.setCells, setFrom]
    refine heap_setCells t b r (o + 1) (cs.set o v) _ ?_
    rw [heap_setCell_same w b o _ t v h, List.setIfInBounds_toArray]
theorem heap_setCells_other (b k : Nat) (hk : k ≠ b) : ∀ (vs : List Value) (o : Nat) (w : World), (w.setCells b o vs).heap[k]? = w.heap[k]?
  | [], _, _ => rfl
  | v :: r, o, w => by
    rw [World.setCells, heap_setCells_other b k hk r (o + 1), heap_setCell_other w _ k v hk]
theorem WalkAt.setN {w : World} {h g : Nat} {jJ pI : Nat → Nat} {n : Int} (H : WalkAt w h g jJ pI n) (m : Int) : WalkAt (w.setCell ⟨h, 33, none⟩ (.int .i64 m)) h g jJ pI m := by
  unfold WalkAt at *
  rw [heap_setCell_same w h 33 _ 61 _ H, List.setIfInBounds_toArray]
  have e : (wCells g jJ pI n).set 33 (.int .i64 m) = wCells g jJ pI m := by simp [wCells, bl_len]
  rw [e]
theorem WalkAt.setP {w : World} {h g : Nat} {jJ pI : Nat → Nat} {n : Int} (H : WalkAt w h g jJ pI n) (q : Nat → Nat) : WalkAt (w.setCells h 17 (bl q)) h g jJ q n := by
  unfold WalkAt at *
  have e := setFrom_part (bl q) (bl pI) (.pointer (some ⟨g, 0, none⟩) :: bl jJ) [.int .i64 n] (by rw [bl_len, bl_len])
  have e17 : (Value.pointer (some ⟨g, 0, none⟩) :: bl jJ).length = 17 := by simp [bl_len]
  rw [e17] at e
  have e' : setFrom (wCells g jJ pI n) 17 (bl q) = wCells g jJ q n := e
  rw [heap_setCells 61 h (bl q) 17 _ w H, e']

/-- of what w held nothing has turned but block h -/
structure Kept (h : Nat) (w w' : World) : Prop where
  os : w'.os = w.os
  tape : w'.tape = w.tape
  output : w'.output = w.output
  size : w.heap.size ≤ w'.heap.size
  block : ∀ k, k < w.heap.size → k ≠ h → w'.heap[k]? = w.heap[k]?
section
variable {h : Nat} {w W : World}
theorem Kept.refl : Kept h w w := ⟨rfl, rfl, rfl, Nat.le_refl _, fun _ _ _ => rfl⟩
theorem Kept.drew (K : Kept h w W) : Kept h w W.drew := ⟨K.os, K.tape, K.output, K.size, K.block⟩
theorem Kept.on {W' : World} (K : Kept h w W) (hb : Below W.heap.size W W') : Kept h w W' :=
  ⟨hb.os.trans K.os, hb.tape.trans K.tape, hb.output.trans K.output, Nat.le_trans K.size hb.size, fun k hk hne => (hb.block k (Nat.lt_of_lt_of_le hk K.size)).trans (K.block k hk hne)⟩
theorem Kept.alloc (K : Kept h w W) (o : Obj) : Kept h w (W.alloc o) := K.on ((Below.refl _ _).alloc (Nat.le_refl _) o)
theorem Kept.setCell (K : Kept h w W) (o : Nat) (v : Value) : Kept h w (W.setCell ⟨h, o, none⟩ v) :=
  ⟨K.os, K.tape, K.output, by simpa [World.setCell] using K.size, fun k hk hne => (heap_setCell_other W _ k v hne).trans (K.block k hk hne)⟩
theorem Kept.setCells : ∀ (vs : List Value) (o : Nat) {W : World} (_ : Kept h w W), Kept h w (W.setCells h o vs)
  | [], _, _, K => K
  | v :: r, o, _, K => Kept.setCells r (o + 1) (K.setCell o v)
theorem Kept.setRow (K : Kept h w W) (r : Nat) (cs : Array Value) (hr : w.heap.size ≤ r) : Kept h w (W.setRow r cs) :=
  ⟨K.os, K.tape, K.output, by simpa using K.size, fun k hk hne => (setRow_other W r k cs (by omega)).trans (K.block k hk hne)⟩
theorem Kept.below (K : Kept h w W) {B : Nat} (h1 : B ≤ h) (h2 : B ≤ w.heap.size) : Below B w W :=
  ⟨K.os, K.tape, K.output, K.size, fun k hk => K.block k (by omega) (by omega)⟩
theorem Kept.holds (K : Kept h w W) {b : Nat} {o : Obj} (hb : w.heap[b]? = some o) (hne : b ≠ h) : W.heap[b]? = some o := by rw [K.block b (heap_lt hb) hne, hb]
end

theorem WalkAt.frozen {w : World} {h g : Nat} {jJ pI : Nat → Nat} {n : Int} (H : WalkAt w h g jJ pI n) (j : Nat) : w.frozen? ⟨h, j, none⟩ = false := frozen_of_row w h j _ 61 H
theorem WalkAt.thereP {w : World} {h g : Nat} {jJ pI : Nat → Nat} {n : Int} (H : WalkAt w h g jJ pI n) : w.there h 17 16 := fun j hj => by
  have hl := bl_len pI
  exact ⟨H.rP.isSome j (by omega), H.frozen _⟩

/-- the power of I behind the next step -/
def nextP (m : Nat) (pI : Nat → Nat) : Nat → Nat := if 1 ≤ m ∧ (m + 1) % 8 = 1 then Gf.dbl pI else pI

set_option maxHeartbeats 4000000 in
/-- (*maskWalk).next -/
theorem next_calls (g h m : Nat) (jJ pI I J : Nat → Nat) (f : Nat → Nat → Nat) (w : World) (hm : m ≤ 100000) (hgh : g ≠ h) (hj : Gf.Byte jJ) (hp : Gf.Byte pI) (hf : ∀ n, Gf.Byte (f n)) (hk : KeyAt w g I J f) (hw : WalkAt w h g jJ pI (m : Int)) :
    Calls Trym.prog 35 #[.pointer (some ⟨h, 0, none⟩)] w fun e w' => e = .returned (.agg (bl (Gf.fx (Gf.fx jJ (nextP m pI)) (f ((m + 1) % 8)))).toArray) ∧ WalkAt w' h g jJ (nextP m pI) ((m + 1 : Nat) : Int) ∧ Kept h w w' := by
  have hlt := heap_lt hw
  have hne : h ≠ w.heap.size := by omega
  have cN := hw.cN
  have cF := hw.frozen 33
  have m0 : (0 : Int) ≤ (m : Int) := by omega
  have m1 : (m : Int) ≤ 100000 := by omega
  have hglt := heap_lt hk
  have hsz : (w.setCell ⟨h, 33, none⟩ (.int .i64 ((m : Int) + 1))).heap.size = w.heap.size := by simp [World.setCell]
  have hw0 : WalkAt ((w.setCell ⟨h, 33, none⟩ (.int .i64 ((m : Int) + 1))).alloc (.cells (bl Gf.zero).toArray 55)) h g jJ pI ((m : Int) + 1) := heap_alloc (hw.setN _) _
  have hk0 : KeyAt ((w.setCell ⟨h, 33, none⟩ (.int .i64 ((m : Int) + 1))).alloc (.cells (bl Gf.zero).toArray 55)) g I J f := heap_alloc ((heap_setCell_other w _ g _ hgh).trans hk) _
  have hz0 : Holds16 ((w.setCell ⟨h, 33, none⟩ (.int .i64 ((m : Int) + 1))).alloc (.cells (bl Gf.zero).toArray 55)) w.heap.size 55 Gf.zero := by
    have := Holds16.new (w.setCell ⟨h, 33, none⟩ (.int .i64 ((m : Int) + 1))) 55 Gf.zero
    rw [hsz] at this
    exact this
  have K0 : Kept h w ((w.setCell ⟨h, 33, none⟩ (.int .i64 ((m : Int) + 1))).alloc (.cells (bl Gf.zero).toArray 55)) := (Kept.refl.setCell 33 _).alloc _
  have eN : ((m + 1 : Nat) : Int) = (m : Int) + 1 := by omega
  have HN : Hid (((m + 1 : Nat) : Int) = (m : Int) + 1) := eN
  clear eN hsz
  by_cases h1 : 1 ≤ m
  · have g1 : (1 : Int) < (m : Int) + 1 := by omega
    by_cases h8 : (m + 1) % 8 = 1
    · have g8 : (((m : Int) + 1) % 8 == 1) = true := by rw [beq_iff_eq]; omega
      have HP : Hid (nextP m pI = Gf.dbl pI) := if_pos ⟨h1, h8⟩
      clear h8
      go_enter Trym.func35, Trym.ntmps35
      go_wp2_with (refine wpList_load_mid rfl 55 _ rfl h 17 rfl (bl pI) _ hw0.rP Trym.underlying55 rfl (info55l pI) ?_)
      refine (double_calls pI _ hp).mono ?_
      rintro e x0 ⟨rfl, hb0⟩
      have w1 : WalkAt x0 h g jJ pI ((m : Int) + 1) := heap_after hb0 hw0
      have k1 : KeyAt x0 g I J f := heap_after hb0 hk0
      have z1 : Holds16 x0 w.heap.size 55 Gf.zero := heap_after hb0 hz0
      have K1 := Kept.on K0 hb0
      clear hb0 hw0 hk0 hz0 K0
      have w2 := w1.setP (Gf.dbl pI)
      have k2 : KeyAt (x0.setCells h 17 (bl (Gf.dbl pI))) g I J f := (heap_setCells_other h g hgh _ 17 x0).trans k1
      have z2 : Holds16 (x0.setCells h 17 (bl (Gf.dbl pI))) w.heap.size 55 Gf.zero := (heap_setCells_other h w.heap.size (by omega) _ 17 x0).trans z1
      have K2 := Kept.setCells (bl (Gf.dbl pI)) 17 K1
      have ht : x0.there h 17 (bl (Gf.dbl pI)).toArray.size := by rw [bl_size]; exact w1.thereP
      clear k1 z1 K1
      go_wp2_with (refine wpList_store_mid rfl 55 _ _ rfl h 17 (bl (Gf.dbl pI)).toArray rfl rfl ht (info55 _) (bl_all _) ?_)
      generalize x0.setCells h 17 (bl (Gf.dbl pI)) = X at *
      clear w1 ht
      refine wp_region_noPanic ?_
      refine wp_region_held_drew (S := fun w' => WalkAt w' h g jJ (Gf.dbl pI) ((m : Int) + 1) ∧ KeyAt w' g I J f) (by kernel_rfl) ⟨w2, k2⟩ (fun hHeld => ?_)
      refine Held.take (i := 0) (some 31) (.pointer (some ⟨h, 0, none⟩)) rfl rfl (by kernel_rfl) (by kernel_rfl) (by kernel_rfl) (fun _ _ _ h => h) (Held.yields_move (by rfl) (.tmp 0) (.inl rfl)) hHeld ?_
      simp only [Act.put, List.setIfInBounds_toArray, List.set_cons_zero, List.set_cons_succ]
      refine Held.take (i := 1) (some 32) (.pointer (some ⟨h, 0, none⟩)) rfl rfl (by kernel_rfl) (by kernel_rfl) (by kernel_rfl) (fun _ _ _ h => h) (Held.yields_nilCheck (by rfl) _ rfl _ rfl) hHeld ?_
      simp only [Act.put, List.setIfInBounds_toArray, List.set_cons_zero, List.set_cons_succ]
      refine Held.take (i := 2) (some 33) (.pointer (some ⟨h, 1, none⟩)) rfl rfl (by kernel_rfl) (by kernel_rfl) (by kernel_rfl) (fun _ _ _ h => h) (Held.yields_fieldAddr (by rfl) _ _ _ rfl _ _ rfl (field61_1 h)) hHeld ?_
      simp only [Act.put, List.setIfInBounds_toArray, List.set_cons_zero, List.set_cons_succ]
      refine Held.take (i := 3) (some 34) (.agg (bl jJ).toArray) rfl rfl (by kernel_rfl) (by kernel_rfl) (by kernel_rfl) (fun _ _ _ h => h) (Held.yields_load (by rfl) _ _ rfl _ _ rfl (bl jJ) _ (fun _ h => h.1.rJ) Trym.underlying55 rfl (info55l jJ)) hHeld ?_
      simp only [Act.put, List.setIfInBounds_toArray, List.set_cons_zero, List.set_cons_succ]
      refine Held.take (i := 4) (some 35) (.pointer (some ⟨h, 0, none⟩)) rfl rfl (by kernel_rfl) (by kernel_rfl) (by kernel_rfl) (fun _ _ _ h => h) (Held.yields_move (by rfl) (.tmp 0) (.inl rfl)) hHeld ?_
      simp only [Act.put, List.setIfInBounds_toArray, List.set_cons_zero, List.set_cons_succ]
      refine Held.take (i := 5) (some 36) (.pointer (some ⟨h, 0, none⟩)) rfl rfl (by kernel_rfl) (by kernel_rfl) (by kernel_rfl) (fun _ _ _ h => h) (Held.yields_nilCheck (by rfl) _ rfl _ rfl) hHeld ?_
      simp only [Act.put, List.setIfInBounds_toArray, List.set_cons_zero, List.set_cons_succ]
      refine Held.take (i := 6) (some 37) (.pointer (some ⟨h, 17, none⟩)) rfl rfl (by kernel_rfl) (by kernel_rfl) (by kernel_rfl) (fun _ _ _ h => h) (Held.yields_fieldAddr (by rfl) _ _ _ rfl _ _ rfl (field61_2 h)) hHeld ?_
      simp only [Act.put, List.setIfInBounds_toArray, List.set_cons_zero, List.set_cons_succ]
      refine Held.take (i := 7) (some 38) (.agg (bl (Gf.dbl pI)).toArray) rfl rfl (by kernel_rfl) (by kernel_rfl) (by kernel_rfl) (fun _ _ _ h => h) (Held.yields_load (by rfl) _ _ rfl _ _ rfl (bl (Gf.dbl pI)) _ (fun _ h => h.1.rP) Trym.underlying55 rfl (info55l (Gf.dbl pI))) hHeld ?_
      simp only [Act.put, List.setIfInBounds_toArray, List.set_cons_zero, List.set_cons_succ]
      refine Held.take (i := 9) (some 40) (.pointer (some ⟨h, 0, none⟩)) rfl rfl (by kernel_rfl) (by kernel_rfl) (by kernel_rfl) (fun _ _ _ h => h) (Held.yields_move (by rfl) (.tmp 0) (.inl rfl)) hHeld ?_
      simp only [Act.put, List.setIfInBounds_toArray, List.set_cons_zero, List.set_cons_succ]
      refine Held.take (i := 10) (some 41) (.pointer (some ⟨h, 0, none⟩)) rfl rfl (by kernel_rfl) (by kernel_rfl) (by kernel_rfl) (fun _ _ _ h => h) (Held.yields_nilCheck (by rfl) _ rfl _ rfl) hHeld ?_
      simp only [Act.put, List.setIfInBounds_toArray, List.set_cons_zero, List.set_cons_succ]
      refine Held.take (i := 11) (some 42) (.pointer (some ⟨h, 0, none⟩)) rfl rfl (by kernel_rfl) (by kernel_rfl) (by kernel_rfl) (fun _ _ _ h => h) (Held.yields_fieldAddr (by rfl) _ _ _ rfl _ _ rfl (field61_0 h)) hHeld ?_
      simp only [Act.put, List.setIfInBounds_toArray, List.set_cons_zero, List.set_cons_succ]
      refine Held.take (i := 12) (some 43) (.pointer (some ⟨g, 0, none⟩)) rfl rfl (by kernel_rfl) (by kernel_rfl) (by kernel_rfl) (fun _ _ _ h => h) (Held.yields_load1 (by rfl) _ _ rfl _ rfl _ (fun w h => load_ptr _ _ w h.1.cK)) hHeld ?_
      simp only [Act.put, List.setIfInBounds_toArray, List.set_cons_zero, List.set_cons_succ]
      refine Held.take (i := 13) (some 44) (.pointer (some ⟨h, 0, none⟩)) rfl rfl (by kernel_rfl) (by kernel_rfl) (by kernel_rfl) (fun _ _ _ h => h) (Held.yields_move (by rfl) (.tmp 0) (.inl rfl)) hHeld ?_
      simp only [Act.put, List.setIfInBounds_toArray, List.set_cons_zero, List.set_cons_succ]
      refine Held.take (i := 14) (some 45) (.pointer (some ⟨h, 0, none⟩)) rfl rfl (by kernel_rfl) (by kernel_rfl) (by kernel_rfl) (fun _ _ _ h => h) (Held.yields_nilCheck (by rfl) _ rfl _ rfl) hHeld ?_
      simp only [Act.put, List.setIfInBounds_toArray, List.set_cons_zero, List.set_cons_succ]
      refine Held.take (i := 15) (some 46) (.pointer (some ⟨h, 33, none⟩)) rfl rfl (by kernel_rfl) (by kernel_rfl) (by kernel_rfl) (fun _ _ _ h => h) (Held.yields_fieldAddr (by rfl) _ _ _ rfl _ _ rfl (field61_3 h)) hHeld ?_
      simp only [Act.put, List.setIfInBounds_toArray, List.set_cons_zero, List.set_cons_succ]
      refine Held.take (i := 16) (some 47) (.int .i64 ((m : Int) + 1)) rfl rfl (by kernel_rfl) (by kernel_rfl) (by kernel_rfl) (fun _ _ _ h => h) (Held.yields_load1 (by rfl) _ _ rfl _ rfl _ (fun w h => load_int _ _ w h.1.cN)) hHeld ?_
      simp only [Act.put, List.setIfInBounds_toArray, List.set_cons_zero, List.set_cons_succ]
      refine Held.take (i := 17) (some 48) (.int .i64 (((m + 1) % 8 : Nat) : Int)) rfl rfl (by kernel_rfl) (by kernel_rfl) (by kernel_rfl) (fun _ _ _ h => h) (Held.yields_binOp (by rfl) _ _ _ _ _ rfl _ _ _ rfl rfl (rem8 (m + 1) _ _)) hHeld ?_
      simp only [Act.put, List.setIfInBounds_toArray, List.set_cons_zero, List.set_cons_succ]
      refine Held.take (i := 18) (some 49) (.pointer (some ⟨g, 0, none⟩)) rfl rfl (by kernel_rfl) (by kernel_rfl) (by kernel_rfl) (fun _ _ _ h => h) (Held.yields_nilCheck (by rfl) _ rfl _ rfl) hHeld ?_
      simp only [Act.put, List.setIfInBounds_toArray, List.set_cons_zero, List.set_cons_succ]
      refine Held.take (i := 19) (some 50) (.pointer (some ⟨g, 32, none⟩)) rfl rfl (by kernel_rfl) (by kernel_rfl) (by kernel_rfl) (fun _ _ _ h => h) (Held.yields_fieldAddr (by rfl) _ _ _ rfl _ _ rfl (field59_2 g)) hHeld ?_
      simp only [Act.put, List.setIfInBounds_toArray, List.set_cons_zero, List.set_cons_succ]
      refine Held.take (i := 20) (some 51) (.pointer (some ⟨g, 32 + (m + 1) % 8 * 16, none⟩)) rfl rfl (by kernel_rfl) (by kernel_rfl) (by kernel_rfl) (fun _ _ _ h => h) (Held.yields_indexAddr (by rfl) _ _ _ rfl _ _ _ rfl rfl (index57 g _ (Nat.mod_lt _ (by omega)))) hHeld ?_
      simp only [Act.put, List.setIfInBounds_toArray, List.set_cons_zero, List.set_cons_succ]
      refine Held.take (i := 21) (some 52) (.agg (bl (f ((m + 1) % 8))).toArray) rfl rfl (by kernel_rfl) (by kernel_rfl) (by kernel_rfl) (fun _ _ _ h => h) (Held.yields_load (by rfl) _ _ rfl _ _ rfl (bl (f ((m + 1) % 8))) _ (fun _ h => h.2.rL _ (Nat.mod_lt _ (by omega))) Trym.underlying55 rfl (info55l _)) hHeld ?_
      simp only [Act.put, List.setIfInBounds_toArray, List.set_cons_zero, List.set_cons_succ]
      refine Held.ready_call (i := 8) (some 39) 46 _ _ #[.agg (bl jJ).toArray, .agg (bl (Gf.dbl pI)).toArray] rfl rfl rfl rfl (by kernel_rfl) (by simp [Act.eval]) Trym.call46 ?_
      refine (xor_calls jJ (Gf.dbl pI) _ hj (Gf.byte_dbl hp)).mono ?_
      rintro e x1 ⟨rfl, hb1⟩
      have y1 : WalkAt x1 h g jJ (Gf.dbl pI) ((m : Int) + 1) ∧ KeyAt x1 g I J f := ⟨heap_after hb1 hHeld.1, heap_after hb1 hHeld.2⟩
      have z1 : Holds16 x1 w.heap.size 55 Gf.zero := heap_after hb1 z2
      have k1 := Kept.on K2.drew hb1
      refine ⟨_, rfl, y1, ?_⟩
      clear hb1 hHeld
      simp only [Act.put, List.setIfInBounds_toArray, List.set_cons_zero, List.set_cons_succ]
      refine Held.ready_call (i := 22) (some 53) 46 _ _ #[.agg (bl (Gf.fx jJ (Gf.dbl pI))).toArray, .agg (bl (f ((m + 1) % 8))).toArray] rfl rfl rfl rfl (by kernel_rfl) (by simp [Act.eval]) Trym.call46 ?_
      refine (xor_calls (Gf.fx jJ (Gf.dbl pI)) (f ((m + 1) % 8)) _ (Gf.byte_fx hj (Gf.byte_dbl hp)) (hf _)).mono ?_
      rintro e x2 ⟨rfl, hb2⟩
      have y2 : WalkAt x2 h g jJ (Gf.dbl pI) ((m : Int) + 1) ∧ KeyAt x2 g I J f := ⟨heap_after hb2 y1.1, heap_after hb2 y1.2⟩
      have z2 : Holds16 x2 w.heap.size 55 Gf.zero := heap_after hb2 z1
      have k2 := Kept.on k1 hb2
      refine ⟨_, rfl, y2, ?_⟩
      clear hb2
      simp only [Act.put, List.setIfInBounds_toArray, List.set_cons_zero, List.set_cons_succ]
      have y3 : WalkAt (x2.setRow w.heap.size (bl (Gf.fx (Gf.fx jJ (Gf.dbl pI)) (f ((m + 1) % 8)))).toArray) h g jJ (Gf.dbl pI) ((m : Int) + 1) := (setRow_other x2 _ h _ hne).trans y2.1
      refine Held.ready_store (i := 23) 55 _ _ w.heap.size _ _ 55 rfl rfl rfl rfl (by kernel_rfl) rfl rfl z2 (info55 _) (by rw [bl_size, bl_size]) (bl_all _) ⟨y3, (setRow_other x2 _ g _ (by omega)).trans y2.2⟩ ?_
      refine wpAnyH_done (by kernel_rfl) ?_ _
      refine NoPanic.normal ?_
      go_wp2_with fail
      refine bodyPost_ret (results_cell_row Trym.results35 _ _ w.heap.size 55 _ (0, 0) _ rfl (z2.setRow _) Trym.underlying55 rfl (info55 _)) rfl ?_
      rw [HP.out, HN.out]
      exact ⟨rfl, y3, k2.setRow _ _ (Nat.le_refl _)⟩
    · have g8 : (((m : Int) + 1) % 8 == 1) = false := by rw [beq_eq_false_iff_ne]; omega
      have HP : Hid (nextP m pI = pI) := if_neg (fun h => h8 h.2)
      clear h8
      go_enter Trym.func35, Trym.ntmps35
      go_wp2_with fail
      refine wp_region_noPanic ?_
      refine wp_region_held_drew (S := fun w' => WalkAt w' h g jJ pI ((m : Int) + 1) ∧ KeyAt w' g I J f) (by kernel_rfl) ⟨hw0, hk0⟩ (fun hHeld => ?_)
      refine Held.take (i := 0) (some 31) (.pointer (some ⟨h, 0, none⟩)) rfl rfl (by kernel_rfl) (by kernel_rfl) (by kernel_rfl) (fun _ _ _ h => h) (Held.yields_move (by rfl) (.tmp 0) (.inl rfl)) hHeld ?_
      simp only [Act.put, List.setIfInBounds_toArray, List.set_cons_zero, List.set_cons_succ]
      refine Held.take (i := 1) (some 32) (.pointer (some ⟨h, 0, none⟩)) rfl rfl (by kernel_rfl) (by kernel_rfl) (by kernel_rfl) (fun _ _ _ h => h) (Held.yields_nilCheck (by rfl) _ rfl _ rfl) hHeld ?_
      simp only [Act.put, List.setIfInBounds_toArray, List.set_cons_zero, List.set_cons_succ]
      refine Held.take (i := 2) (some 33) (.pointer (some ⟨h, 1, none⟩)) rfl rfl (by kernel_rfl) (by kernel_rfl) (by kernel_rfl) (fun _ _ _ h => h) (Held.yields_fieldAddr (by rfl) _ _ _ rfl _ _ rfl (field61_1 h)) hHeld ?_
      simp only [Act.put, List.setIfInBounds_toArray, List.set_cons_zero, List.set_cons_succ]
      refine Held.take (i := 3) (some 34) (.agg (bl jJ).toArray) rfl rfl (by kernel_rfl) (by kernel_rfl) (by kernel_rfl) (fun _ _ _ h => h) (Held.yields_load (by rfl) _ _ rfl _ _ rfl (bl jJ) _ (fun _ h => h.1.rJ) Trym.underlying55 rfl (info55l jJ)) hHeld ?_
      simp only [Act.put, List.setIfInBounds_toArray, List.set_cons_zero, List.set_cons_succ]
      refine Held.take (i := 4) (some 35) (.pointer (some ⟨h, 0, none⟩)) rfl rfl (by kernel_rfl) (by kernel_rfl) (by kernel_rfl) (fun _ _ _ h => h) (Held.yields_move (by rfl) (.tmp 0) (.inl rfl)) hHeld ?_
      simp only [Act.put, List.setIfInBounds_toArray, List.set_cons_zero, List.set_cons_succ]
      refine Held.take (i := 5) (some 36) (.pointer (some ⟨h, 0, none⟩)) rfl rfl (by kernel_rfl) (by kernel_rfl) (by kernel_rfl) (fun _ _ _ h => h) (Held.yields_nilCheck (by rfl) _ rfl _ rfl) hHeld ?_
      simp only [Act.put, List.setIfInBounds_toArray, List.set_cons_zero, List.set_cons_succ]
      refine Held.take (i := 6) (some 37) (.pointer (some ⟨h, 17, none⟩)) rfl rfl (by kernel_rfl) (by kernel_rfl) (by kernel_rfl) (fun _ _ _ h => h) (Held.yields_fieldAddr (by rfl) _ _ _ rfl _ _ rfl (field61_2 h)) hHeld ?_
      simp only [Act.put, List.setIfInBounds_toArray, List.set_cons_zero, List.set_cons_succ]
      refine Held.take (i := 7) (some 38) (.agg (bl pI).toArray) rfl rfl (by kernel_rfl) (by kernel_rfl) (by kernel_rfl) (fun _ _ _ h => h) (Held.yields_load (by rfl) _ _ rfl _ _ rfl (bl pI) _ (fun _ h => h.1.rP) Trym.underlying55 rfl (info55l pI)) hHeld ?_
      simp only [Act.put, List.setIfInBounds_toArray, List.set_cons_zero, List.set_cons_succ]
      refine Held.take (i := 9) (some 40) (.pointer (some ⟨h, 0, none⟩)) rfl rfl (by kernel_rfl) (by kernel_rfl) (by kernel_rfl) (fun _ _ _ h => h) (Held.yields_move (by rfl) (.tmp 0) (.inl rfl)) hHeld ?_
      simp only [Act.put, List.setIfInBounds_toArray, List.set_cons_zero, List.set_cons_succ]
      refine Held.take (i := 10) (some 41) (.pointer (some ⟨h, 0, none⟩)) rfl rfl (by kernel_rfl) (by kernel_rfl) (by kernel_rfl) (fun _ _ _ h => h) (Held.yields_nilCheck (by rfl) _ rfl _ rfl) hHeld ?_
      simp only [Act.put, List.setIfInBounds_toArray, List.set_cons_zero, List.set_cons_succ]
      refine Held.take (i := 11) (some 42) (.pointer (some ⟨h, 0, none⟩)) rfl rfl (by kernel_rfl) (by kernel_rfl) (by kernel_rfl) (fun _ _ _ h => h) (Held.yields_fieldAddr (by rfl) _ _ _ rfl _ _ rfl (field61_0 h)) hHeld ?_
      simp only [Act.put, List.setIfInBounds_toArray, List.set_cons_zero, List.set_cons_succ]
      refine Held.take (i := 12) (some 43) (.pointer (some ⟨g, 0, none⟩)) rfl rfl (by kernel_rfl) (by kernel_rfl) (by kernel_rfl) (fun _ _ _ h => h) (Held.yields_load1 (by rfl) _ _ rfl _ rfl _ (fun w h => load_ptr _ _ w h.1.cK)) hHeld ?_
      simp only [Act.put, List.setIfInBounds_toArray, List.set_cons_zero, List.set_cons_succ]
      refine Held.take (i := 13) (some 44) (.pointer (some ⟨h, 0, none⟩)) rfl rfl (by kernel_rfl) (by kernel_rfl) (by kernel_rfl) (fun _ _ _ h => h) (Held.yields_move (by rfl) (.tmp 0) (.inl rfl)) hHeld ?_
      simp only [Act.put, List.setIfInBounds_toArray, List.set_cons_zero, List.set_cons_succ]
      refine Held.take (i := 14) (some 45) (.pointer (some ⟨h, 0, none⟩)) rfl rfl (by kernel_rfl) (by kernel_rfl) (by kernel_rfl) (fun _ _ _ h => h) (Held.yields_nilCheck (by rfl) _ rfl _ rfl) hHeld ?_
      simp only [Act.put, List.setIfInBounds_toArray, List.set_cons_zero, List.set_cons_succ]
      refine Held.take (i := 15) (some 46) (.pointer (some ⟨h, 33, none⟩)) rfl rfl (by kernel_rfl) (by kernel_rfl) (by kernel_rfl) (fun _ _ _ h => h) (Held.yields_fieldAddr (by rfl) _ _ _ rfl _ _ rfl (field61_3 h)) hHeld ?_
      simp only [Act.put, List.setIfInBounds_toArray, List.set_cons_zero, List.set_cons_succ]
      refine Held.take (i := 16) (some 47) (.int .i64 ((m : Int) + 1)) rfl rfl (by kernel_rfl) (by kernel_rfl) (by kernel_rfl) (fun _ _ _ h => h) (Held.yields_load1 (by rfl) _ _ rfl _ rfl _ (fun w h => load_int _ _ w h.1.cN)) hHeld ?_
      simp only [Act.put, List.setIfInBounds_toArray, List.set_cons_zero, List.set_cons_succ]
      refine Held.take (i := 17) (some 48) (.int .i64 (((m + 1) % 8 : Nat) : Int)) rfl rfl (by kernel_rfl) (by kernel_rfl) (by kernel_rfl) (fun _ _ _ h => h) (Held.yields_binOp (by rfl) _ _ _ _ _ rfl _ _ _ rfl rfl (rem8 (m + 1) _ _)) hHeld ?_
      simp only [Act.put, List.setIfInBounds_toArray, List.set_cons_zero, List.set_cons_succ]
      refine Held.take (i := 18) (some 49) (.pointer (some ⟨g, 0, none⟩)) rfl rfl (by kernel_rfl) (by kernel_rfl) (by kernel_rfl) (fun _ _ _ h => h) (Held.yields_nilCheck (by rfl) _ rfl _ rfl) hHeld ?_
      simp only [Act.put, List.setIfInBounds_toArray, List.set_cons_zero, List.set_cons_succ]
      refine Held.take (i := 19) (some 50) (.pointer (some ⟨g, 32, none⟩)) rfl rfl (by kernel_rfl) (by kernel_rfl) (by kernel_rfl) (fun _ _ _ h => h) (Held.yields_fieldAddr (by rfl) _ _ _ rfl _ _ rfl (field59_2 g)) hHeld ?_
      simp only [Act.put, List.setIfInBounds_toArray, List.set_cons_zero, List.set_cons_succ]
      refine Held.take (i := 20) (some 51) (.pointer (some ⟨g, 32 + (m + 1) % 8 * 16, none⟩)) rfl rfl (by kernel_rfl) (by kernel_rfl) (by kernel_rfl) (fun _ _ _ h => h) (Held.yields_indexAddr (by rfl) _ _ _ rfl _ _ _ rfl rfl (index57 g _ (Nat.mod_lt _ (by omega)))) hHeld ?_
      simp only [Act.put, List.setIfInBounds_toArray, List.set_cons_zero, List.set_cons_succ]
      refine Held.take (i := 21) (some 52) (.agg (bl (f ((m + 1) % 8))).toArray) rfl rfl (by kernel_rfl) (by kernel_rfl) (by kernel_rfl) (fun _ _ _ h => h) (Held.yields_load (by rfl) _ _ rfl _ _ rfl (bl (f ((m + 1) % 8))) _ (fun _ h => h.2.rL _ (Nat.mod_lt _ (by omega))) Trym.underlying55 rfl (info55l _)) hHeld ?_
      simp only [Act.put, List.setIfInBounds_toArray, List.set_cons_zero, List.set_cons_succ]
      refine Held.ready_call (i := 8) (some 39) 46 _ _ #[.agg (bl jJ).toArray, .agg (bl pI).toArray] rfl rfl rfl rfl (by kernel_rfl) (by simp [Act.eval]) Trym.call46 ?_
      refine (xor_calls jJ pI _ hj hp).mono ?_
      rintro e x1 ⟨rfl, hb1⟩
      have y1 : WalkAt x1 h g jJ pI ((m : Int) + 1) ∧ KeyAt x1 g I J f := ⟨heap_after hb1 hHeld.1, heap_after hb1 hHeld.2⟩
      have z1 : Holds16 x1 w.heap.size 55 Gf.zero := heap_after hb1 hz0
      have k1 := Kept.on K0.drew hb1
      refine ⟨_, rfl, y1, ?_⟩
      clear hb1 hHeld
      simp only [Act.put, List.setIfInBounds_toArray, List.set_cons_zero, List.set_cons_succ]
      refine Held.ready_call (i := 22) (some 53) 46 _ _ #[.agg (bl (Gf.fx jJ pI)).toArray, .agg (bl (f ((m + 1) % 8))).toArray] rfl rfl rfl rfl (by kernel_rfl) (by simp [Act.eval]) Trym.call46 ?_
      refine (xor_calls (Gf.fx jJ pI) (f ((m + 1) % 8)) _ (Gf.byte_fx hj hp) (hf _)).mono ?_
      rintro e x2 ⟨rfl, hb2⟩
      have y2 : WalkAt x2 h g jJ pI ((m : Int) + 1) ∧ KeyAt x2 g I J f := ⟨heap_after hb2 y1.1, heap_after hb2 y1.2⟩
      have z2 : Holds16 x2 w.heap.size 55 Gf.zero := heap_after hb2 z1
      have k2 := Kept.on k1 hb2
      refine ⟨_, rfl, y2, ?_⟩
      clear hb2
      simp only [Act.put, List.setIfInBounds_toArray, List.set_cons_zero, List.set_cons_succ]
      have y3 : WalkAt (x2.setRow w.heap.size (bl (Gf.fx (Gf.fx jJ pI) (f ((m + 1) % 8)))).toArray) h g jJ pI ((m : Int) + 1) := (setRow_other x2 _ h _ hne).trans y2.1
      refine Held.ready_store (i := 23) 55 _ _ w.heap.size _ _ 55 rfl rfl rfl rfl (by kernel_rfl) rfl rfl z2 (info55 _) (by rw [bl_size, bl_size]) (bl_all _) ⟨y3, (setRow_other x2 _ g _ (by omega)).trans y2.2⟩ ?_
      refine wpAnyH_done (by kernel_rfl) ?_ _
      refine NoPanic.normal ?_
      go_wp2_with fail
      refine bodyPost_ret (results_cell_row Trym.results35 _ _ w.heap.size 55 _ (0, 0) _ rfl (z2.setRow _) Trym.underlying55 rfl (info55 _)) rfl ?_
      rw [HP.out, HN.out]
      exact ⟨rfl, y3, k2.setRow _ _ (Nat.le_refl _)⟩
  · have g1 : decide ((1 : Int) < (m : Int) + 1) = false := by simp; omega
    have HP : Hid (nextP m pI = pI) := if_neg (fun h => h1 h.1)
    go_enter Trym.func35, Trym.ntmps35
    go_wp2_with fail
    refine wp_region_noPanic ?_
    refine wp_region_held_drew (S := fun w' => WalkAt w' h g jJ pI ((m : Int) + 1) ∧ KeyAt w' g I J f) (by kernel_rfl) ⟨hw0, hk0⟩ (fun hHeld => ?_)
    refine Held.take (i := 0) (some 31) (.pointer (some ⟨h, 0, none⟩)) rfl rfl (by kernel_rfl) (by kernel_rfl) (by kernel_rfl) (fun _ _ _ h => h) (Held.yields_move (by rfl) (.tmp 0) (.inl rfl)) hHeld ?_
    simp only [Act.put, List.setIfInBounds_toArray, List.set_cons_zero, List.set_cons_succ]
    refine Held.take (i := 1) (some 32) (.pointer (some ⟨h, 0, none⟩)) rfl rfl (by kernel_rfl) (by kernel_rfl) (by kernel_rfl) (fun _ _ _ h => h) (Held.yields_nilCheck (by rfl) _ rfl _ rfl) hHeld ?_
    simp only [Act.put, List.setIfInBounds_toArray, List.set_cons_zero, List.set_cons_succ]
    refine Held.take (i := 2) (some 33) (.pointer (some ⟨h, 1, none⟩)) rfl rfl (by kernel_rfl) (by kernel_rfl) (by kernel_rfl) (fun _ _ _ h => h) (Held.yields_fieldAddr (by rfl) _ _ _ rfl _ _ rfl (field61_1 h)) hHeld ?_
    simp only [Act.put, List.setIfInBounds_toArray, List.set_cons_zero, List.set_cons_succ]
    refine Held.take (i := 3) (some 34) (.agg (bl jJ).toArray) rfl rfl (by kernel_rfl) (by kernel_rfl) (by kernel_rfl) (fun _ _ _ h => h) (Held.yields_load (by rfl) _ _ rfl _ _ rfl (bl jJ) _ (fun _ h => h.1.rJ) Trym.underlying55 rfl (info55l jJ)) hHeld ?_
    simp only [Act.put, List.setIfInBounds_toArray, List.set_cons_zero, List.set_cons_succ]
    refine Held.take (i := 4) (some 35) (.pointer (some ⟨h, 0, none⟩)) rfl rfl (by kernel_rfl) (by kernel_rfl) (by kernel_rfl) (fun _ _ _ h => h) (Held.yields_move (by rfl) (.tmp 0) (.inl rfl)) hHeld ?_
    simp only [Act.put, List.setIfInBounds_toArray, List.set_cons_zero, List.set_cons_succ]
    refine Held.take (i := 5) (some 36) (.pointer (some ⟨h, 0, none⟩)) rfl rfl (by kernel_rfl) (by kernel_rfl) (by kernel_rfl) (fun _ _ _ h => h) (Held.yields_nilCheck (by rfl) _ rfl _ rfl) hHeld ?_
    simp only [Act.put, List.setIfInBounds_toArray, List.set_cons_zero, List.set_cons_succ]
    refine Held.take (i := 6) (some 37) (.pointer (some ⟨h, 17, none⟩)) rfl rfl (by kernel_rfl) (by kernel_rfl) (by kernel_rfl) (fun _ _ _ h => h) (Held.yields_fieldAddr (by rfl) _ _ _ rfl _ _ rfl (field61_2 h)) hHeld ?_
    simp only [Act.put, List.setIfInBounds_toArray, List.set_cons_zero, List.set_cons_succ]
    refine Held.take (i := 7) (some 38) (.agg (bl pI).toArray) rfl rfl (by kernel_rfl) (by kernel_rfl) (by kernel_rfl) (fun _ _ _ h => h) (Held.yields_load (by rfl) _ _ rfl _ _ rfl (bl pI) _ (fun _ h => h.1.rP) Trym.underlying55 rfl (info55l pI)) hHeld ?_
    simp only [Act.put, List.setIfInBounds_toArray, List.set_cons_zero, List.set_cons_succ]
    refine Held.take (i := 9) (some 40) (.pointer (some ⟨h, 0, none⟩)) rfl rfl (by kernel_rfl) (by kernel_rfl) (by kernel_rfl) (fun _ _ _ h => h) (Held.yields_move (by rfl) (.tmp 0) (.inl rfl)) hHeld ?_
    simp only [Act.put, List.setIfInBounds_toArray, List.set_cons_zero, List.set_cons_succ]
    refine Held.take (i := 10) (some 41) (.pointer (some ⟨h, 0, none⟩)) rfl rfl (by kernel_rfl) (by kernel_rfl) (by kernel_rfl) (fun _ _ _ h => h) (Held.yields_nilCheck (by rfl) _ rfl _ rfl) hHeld ?_
    simp only [Act.put, List.setIfInBounds_toArray, List.set_cons_zero, List.set_cons_succ]
    refine Held.take (i := 11) (some 42) (.pointer (some ⟨h, 0, none⟩)) rfl rfl (by kernel_rfl) (by kernel_rfl) (by kernel_rfl) (fun _ _ _ h => h) (Held.yields_fieldAddr (by rfl) _ _ _ rfl _ _ rfl (field61_0 h)) hHeld ?_
    simp only [Act.put, List.setIfInBounds_toArray, List.set_cons_zero, List.set_cons_succ]
    refine Held.take (i := 12) (some 43) (.pointer (some ⟨g, 0, none⟩)) rfl rfl (by kernel_rfl) (by kernel_rfl) (by kernel_rfl) (fun _ _ _ h => h) (Held.yields_load1 (by rfl) _ _ rfl _ rfl _ (fun w h => load_ptr _ _ w h.1.cK)) hHeld ?_
    simp only [Act.put, List.setIfInBounds_toArray, List.set_cons_zero, List.set_cons_succ]
    refine Held.take (i := 13) (some 44) (.pointer (some ⟨h, 0, none⟩)) rfl rfl (by kernel_rfl) (by kernel_rfl) (by kernel_rfl) (fun _ _ _ h => h) (Held.yields_move (by rfl) (.tmp 0) (.inl rfl)) hHeld ?_
    simp only [Act.put, List.setIfInBounds_toArray, List.set_cons_zero, List.set_cons_succ]
    refine Held.take (i := 14) (some 45) (.pointer (some ⟨h, 0, none⟩)) rfl rfl (by kernel_rfl) (by kernel_rfl) (by kernel_rfl) (fun _ _ _ h => h) (Held.yields_nilCheck (by rfl) _ rfl _ rfl) hHeld ?_
    simp only [Act.put, List.setIfInBounds_toArray, List.set_cons_zero, List.set_cons_succ]
    refine Held.take (i := 15) (some 46) (.pointer (some ⟨h, 33, none⟩)) rfl rfl (by kernel_rfl) (by kernel_rfl) (by kernel_rfl) (fun _ _ _ h => h) (Held.yields_fieldAddr (by rfl) _ _ _ rfl _ _ rfl (field61_3 h)) hHeld ?_
    simp only [Act.put, List.setIfInBounds_toArray, List.set_cons_zero, List.set_cons_succ]
    refine Held.take (i := 16) (some 47) (.int .i64 ((m : Int) + 1)) rfl rfl (by kernel_rfl) (by kernel_rfl) (by kernel_rfl) (fun _ _ _ h => h) (Held.yields_load1 (by rfl) _ _ rfl _ rfl _ (fun w h => load_int _ _ w h.1.cN)) hHeld ?_
    simp only [Act.put, List.setIfInBounds_toArray, List.set_cons_zero, List.set_cons_succ]
    refine Held.take (i := 17) (some 48) (.int .i64 (((m + 1) % 8 : Nat) : Int)) rfl rfl (by kernel_rfl) (by kernel_rfl) (by kernel_rfl) (fun _ _ _ h => h) (Held.yields_binOp (by rfl) _ _ _ _ _ rfl _ _ _ rfl rfl (rem8 (m + 1) _ _)) hHeld ?_
    simp only [Act.put, List.setIfInBounds_toArray, List.set_cons_zero, List.set_cons_succ]
    refine Held.take (i := 18) (some 49) (.pointer (some ⟨g, 0, none⟩)) rfl rfl (by kernel_rfl) (by kernel_rfl) (by kernel_rfl) (fun _ _ _ h => h) (Held.yields_nilCheck (by rfl) _ rfl _ rfl) hHeld ?_
    simp only [Act.put, List.setIfInBounds_toArray, List.set_cons_zero, List.set_cons_succ]
    refine Held.take (i := 19) (some 50) (.pointer (some ⟨g, 32, none⟩)) rfl rfl (by kernel_rfl) (by kernel_rfl) (by kernel_rfl) (fun _ _ _ h => h) (Held.yields_fieldAddr (by rfl) _ _ _ rfl _ _ rfl (field59_2 g)) hHeld ?_
    simp only [Act.put, List.setIfInBounds_toArray, List.set_cons_zero, List.set_cons_succ]
    refine Held.take (i := 20) (some 51) (.pointer (some ⟨g, 32 + (m + 1) % 8 * 16, none⟩)) rfl rfl (by kernel_rfl) (by kernel_rfl) (by kernel_rfl) (fun _ _ _ h => h) (Held.yields_indexAddr (by rfl) _ _ _ rfl _ _ _ rfl rfl (index57 g _ (Nat.mod_lt _ (by omega)))) hHeld ?_
    simp only [Act.put, List.setIfInBounds_toArray, List.set_cons_zero, List.set_cons_succ]
    refine Held.take (i := 21) (some 52) (.agg (bl (f ((m + 1) % 8))).toArray) rfl rfl (by kernel_rfl) (by kernel_rfl) (by kernel_rfl) (fun _ _ _ h => h) (Held.yields_load (by rfl) _ _ rfl _ _ rfl (bl (f ((m + 1) % 8))) _ (fun _ h => h.2.rL _ (Nat.mod_lt _ (by omega))) Trym.underlying55 rfl (info55l _)) hHeld ?_
    simp only [Act.put, List.setIfInBounds_toArray, List.set_cons_zero, List.set_cons_succ]
    refine Held.ready_call (i := 8) (some 39) 46 _ _ #[.agg (bl jJ).toArray, .agg (bl pI).toArray] rfl rfl rfl rfl (by kernel_rfl) (by simp [Act.eval]) Trym.call46 ?_
    refine (xor_calls jJ pI _ hj hp).mono ?_
    rintro e x1 ⟨rfl, hb1⟩
    have y1 : WalkAt x1 h g jJ pI ((m : Int) + 1) ∧ KeyAt x1 g I J f := ⟨heap_after hb1 hHeld.1, heap_after hb1 hHeld.2⟩
    have z1 : Holds16 x1 w.heap.size 55 Gf.zero := heap_after hb1 hz0
    have k1 := Kept.on K0.drew hb1
    refine ⟨_, rfl, y1, ?_⟩
    clear hb1 hHeld
    simp only [Act.put, List.setIfInBounds_toArray, List.set_cons_zero, List.set_cons_succ]
    refine Held.ready_call (i := 22) (some 53) 46 _ _ #[.agg (bl (Gf.fx jJ pI)).toArray, .agg (bl (f ((m + 1) % 8))).toArray] rfl rfl rfl rfl (by kernel_rfl) (by simp [Act.eval]) Trym.call46 ?_
    refine (xor_calls (Gf.fx jJ pI) (f ((m + 1) % 8)) _ (Gf.byte_fx hj hp) (hf _)).mono ?_
    rintro e x2 ⟨rfl, hb2⟩
    have y2 : WalkAt x2 h g jJ pI ((m : Int) + 1) ∧ KeyAt x2 g I J f := ⟨heap_after hb2 y1.1, heap_after hb2 y1.2⟩
    have z2 : Holds16 x2 w.heap.size 55 Gf.zero := heap_after hb2 z1
    have k2 := Kept.on k1 hb2
    refine ⟨_, rfl, y2, ?_⟩
    clear hb2
    simp only [Act.put, List.setIfInBounds_toArray, List.set_cons_zero, List.set_cons_succ]
    have y3 : WalkAt (x2.setRow w.heap.size (bl (Gf.fx (Gf.fx jJ pI) (f ((m + 1) % 8)))).toArray) h g jJ pI ((m : Int) + 1) := (setRow_other x2 _ h _ hne).trans y2.1
    refine Held.ready_store (i := 23) 55 _ _ w.heap.size _ _ 55 rfl rfl rfl rfl (by kernel_rfl) rfl rfl z2 (info55 _) (by rw [bl_size, bl_size]) (bl_all _) ⟨y3, (setRow_other x2 _ g _ (by omega)).trans y2.2⟩ ?_
    refine wpAnyH_done (by kernel_rfl) ?_ _
    refine NoPanic.normal ?_
    go_wp2_with fail
    refine bodyPost_ret (results_cell_row Trym.results35 _ _ w.heap.size 55 _ (0, 0) _ rfl (z2.setRow _) Trym.underlying55 rfl (info55 _)) rfl ?_
    rw [HP.out, HN.out]
    exact ⟨rfl, y3, k2.setRow _ _ (Nat.le_refl _)⟩

end Go.Proofs.Qxb6614255aMods
