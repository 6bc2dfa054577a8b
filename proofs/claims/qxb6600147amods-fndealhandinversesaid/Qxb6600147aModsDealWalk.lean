import Derived.Test.Qxb6600147aModsRow19
import Derived.Test.Qxb6600147aModsHeld
import Derived.Test.Qxb6600147aModsDeal
namespace Go.Proofs.Qxb6600147aMods
open Go.ChangeShapes Go.WideShapes Go.ChangeAt Go.RowKit

theorem wpList_build_at {P : Program} {ops : Array Oper} {rest : List Oper} {o : Oper} {a : Act} {w : World} {Q : Exit → Act → World → Prop} (hg : o.guard = none) (t : TypeId) (parts : Array (Nat × Operand)) (ho : o.op = .build t parts)
    (vals : List (Nat × Value)) (hv : (parts.map fun (i, x) => (i, a.eval x)).toList = vals) (cells : Array Value) (hb : P.built t vals = some cells)
    (h : wpList P ops Q rest (a.put o.dst (.agg cells)) w) : wpList P ops Q (o :: rest) a w := by
  refine wpList_build hg t parts ho ?_ ?_
  · rw [hv, hb]; rfl
  · rw [hv, hb]; exact h

theorem heap_new_at (w : World) (o : Obj) (b : Nat) (h : b = w.heap.size) : (w.alloc o).heap[b]? = some o := by
  subst h; exact heap_alloc_new w o
def z0 : Nat → Nat := fun _ => 0
/-- the queues of the hand behind k rounds; the dealt ones -/
def qf (Q H k : Nat) (i : Nat) : Nat := if i < k then Deal.qv Q H i else 0
def df (Q H k : Nat) (i : Nat) : Nat := (Deal.dl Q H k).getD i 0

theorem add1 (a : Nat) (ha : a ≤ 1000) (x y : Operand) (w : World) : (do eqGuard .add 3 x y (.int .i64 (a : Int)) (.int .i64 1); binOp .add 3 (.int .i64 (a : Int)) (.int .i64 1) : Sem Value).run Trym.prog w = .ok (.int .i64 ((a + 1 : Nat) : Int)) w := by
  have : IntKind.i64.wrap ((a : Int) + 1) = (a : Int) + 1 := by rw [IntKind.wrap_i64]; omega
  simp [go_sem, this]
theorem quo_eq (h Q k : Nat) (hk : k < Q) (hh : h < 18446744073709551616) : IntKind.u64.wrap ((h : Int) / ((Q : Int) - (k : Int))) = ((h / (Q - k) : Nat) : Int) := by
  have e : (Q : Int) - (k : Int) = ((Q - k : Nat) : Int) := by omega
  have h1 : h / (Q - k) ≤ h := Nat.div_le_self _ _
  rw [e, ← Int.natCast_ediv, IntKind.wrap_u64]
  generalize h / (Q - k) = y at *
  omega
theorem rem_eq (h Q k : Nat) (hk : k < Q) (hQ : Q ≤ 9223372036854775807) : wrap64 ((h : Int) % ((Q : Int) - (k : Int))) = ((h % (Q - k) : Nat) : Int) := by
  have e : (Q : Int) - (k : Int) = ((Q - k : Nat) : Int) := by omega
  have h1 : h % (Q - k) < Q - k := Nat.mod_lt _ (by omega)
  rw [e, ← Int.natCast_emod]
  unfold wrap64
  omega
theorem row_after (Q H k a r : Nat) (hs : Deal.bq (Deal.dl Q H k) (Deal.rk Q H k) = r + a ∧ Deal.ins (Deal.dl Q H k) (Deal.rk Q H k) = (Deal.dl Q H k).take a ++ ((r + a) :: (Deal.dl Q H k).drop a)) (hak : a ≤ k) (i : Nat) :
    (if i = a then r + a else if a + 1 ≤ i ∧ i ≤ k then df Q H k (i - 1) else df Q H k i) = df Q H (k + 1) i := by
  have hl := Deal.length_dl Q H k
  unfold df
  show _ = (Deal.ins (Deal.dl Q H k) (Deal.rk Q H k)).getD i 0
  rw [hs.2]
  generalize Deal.dl Q H k = l at *
  have ht : (l.take a).length = a := by simp; omega
  simp only [List.getD_eq_getElem?_getD]
  by_cases h1 : i < a
  · rw [if_neg (by omega), if_neg (by omega), List.getElem?_append_left (by omega), List.getElem?_take_of_lt h1]
  · rw [List.getElem?_append_right (by omega), ht]
    by_cases h2 : i = a
    · subst h2; simp
    · rw [if_neg h2, show i - a = (i - a - 1) + 1 from by omega, List.getElem?_cons_succ, List.getElem?_drop, show a + (i - a - 1) = i - 1 from by omega]
      by_cases h3 : i ≤ k
      · rw [if_pos ⟨by omega, h3⟩]
      · rw [if_neg (by omega), List.getElem?_eq_none (by omega), List.getElem?_eq_none (by omega)]
theorem qf_succ (Q H k a r : Nat) (hs : Deal.bq (Deal.dl Q H k) (Deal.rk Q H k) = r + a ∧ Deal.ins (Deal.dl Q H k) (Deal.rk Q H k) = (Deal.dl Q H k).take a ++ ((r + a) :: (Deal.dl Q H k).drop a)) (i : Nat) :
    (if i = k then r + a else qf Q H k i) = qf Q H (k + 1) i := by
  unfold qf
  by_cases e : i = k
  · subst e; rw [if_pos rfl, if_pos (by omega)]; exact hs.1.symm
  · rw [if_neg e]
    by_cases h : i < k
    · rw [if_pos h, if_pos (by omega)]
    · rw [if_neg h, if_neg (by omega)]

set_option maxHeartbeats 4000000 in
theorem dealHand_calls (H Q n : Nat) (w : World) (hH : H < 18446744073709551616) (hQ : Q ≤ 9223372036854775807) (hn : n ≤ 19) (hnQ : n ≤ Q) :
    Calls Trym.prog 12 #[.int .u64 (H : Int), .int .i64 (Q : Int), .int .i64 (n : Int)] w fun e w' => e = .returned (.agg (hCells (fun i => if i < n then Deal.qv Q H i else 0) (n : Int)).toArray) ∧ Below w.heap.size w w' := by
  have hz1 : HoldsH ((w.alloc (.cells (hCells z0 0).toArray 31)).alloc (.cells (hCells z0 0).toArray 31)) (w.heap.size + 1) z0 0 := by
    exact heap_new_at _ _ _ (by simp)
  have hR0 : HoldsH ((((w.alloc (.cells (hCells z0 0).toArray 31)).alloc (.cells (hCells z0 0).toArray 31)).setRow (w.heap.size + 1) (hCells z0 (n : Int)).toArray).alloc (.cells (hl z0).toArray 23)) w.heap.size z0 0 :=
    heap_alloc ((setRow_other _ _ _ _ (by omega)).trans (heap_alloc (heap_alloc_new w _) _)) _
  have hH0 : HoldsH ((((w.alloc (.cells (hCells z0 0).toArray 31)).alloc (.cells (hCells z0 0).toArray 31)).setRow (w.heap.size + 1) (hCells z0 (n : Int)).toArray).alloc (.cells (hl z0).toArray 23)) (w.heap.size + 1) z0 (n : Int) :=
    heap_alloc (setRow_heap _ _ _ _ 31 _ hz1) _
  have hD0 : HoldsD ((((w.alloc (.cells (hCells z0 0).toArray 31)).alloc (.cells (hCells z0 0).toArray 31)).setRow (w.heap.size + 1) (hCells z0 (n : Int)).toArray).alloc (.cells (hl z0).toArray 23)) (w.heap.size + 1 + 1) z0 := by
    exact heap_new_at _ _ _ (by simp)
  have hB0 : Below w.heap.size w ((((w.alloc (.cells (hCells z0 0).toArray 31)).alloc (.cells (hCells z0 0).toArray 31)).setRow (w.heap.size + 1) (hCells z0 (n : Int)).toArray).alloc (.cells (hl z0).toArray 23)) :=
    (below_setRow' (((Below.refl _ _).alloc (Nat.le_refl _) _).alloc (by simp) _) _ (by omega) _).alloc (by simp; omega) _
  go_enter Trym.func12, Trym.ntmps12
  go_wp2_with (first
    | (refine wpList_build_at rfl 31 _ rfl [(1, .int .i64 (n : Int))] (by simp [Act.eval]) _ (built31 (n : Int)) ?_)
    | (refine wpList_store_row rfl 31 _ _ rfl (w.heap.size + 1) _ rfl rfl 31 _ hz1 (info31 _ _) (by rw [hCells_size, hCells_size]) (hCells_all _ _) ?_))
  clear hz1
  go_loopw [0, 16] (fun x t wr => ∃ k : Nat, k ≤ n ∧ x = .int .u64 ((Deal.hs Q H k : Nat) : Int) ∧ t = .int .i64 (k : Int) ∧ Below w.heap.size w wr ∧ HoldsH wr w.heap.size z0 0 ∧ HoldsH wr (w.heap.size + 1) (qf Q H k) (n : Int) ∧ HoldsD wr (w.heap.size + 1 + 1) (df Q H k)) (fun _ t _ => n - (intOf t).toNat)
  case atStart => exact ⟨0, by omega, rfl, rfl, hB0, hR0, hH0, hD0⟩
  case round =>
    obtain ⟨k, hk, rfl, rfl, hB, hR, hHd, hD⟩ := hrel
    clear hB0 hR0 hH0 hD0
    by_cases hlt : k < n
    · have g0 : (k : Int) < (n : Int) := by omega
      have g1 : (k : Int) < (Q : Int) := by omega
      have g2 : (0 : Int) ≤ (k : Int) := by omega
      have g3 : (Q : Int) ≤ 9223372036854775807 := by omega
      have hh := Deal.hs_le Q H k
      have h1 : ((Deal.hs Q H k : Nat) : Int) ≤ 18446744073709551615 := by omega
      have h0 : (0 : Int) ≤ ((Deal.hs Q H k : Nat) : Int) := by omega
      have HN : Hid (Deal.hs Q H (k + 1) = Deal.hs Q H k / (Q - k)) := rfl
      have Hr : Hid (Deal.rk Q H k = Deal.hs Q H k % (Q - k)) := rfl
      generalize Deal.hs Q H k = h at *
      go_wp2_with fail
      rw [quo_eq h Q k (by omega) (by omega), rem_eq h Q k (by omega) (by omega)]
      have hrb : h % (Q - k) < Q - k := Nat.mod_lt _ (by omega)
      generalize h % (Q - k) = r at *
      have hrq : (r : Int) + (k : Int) < (Q : Int) := by omega
      have r0 : (0 : Int) ≤ (r : Int) := by omega
      go_loop [11, 12] (fun q t => ∃ a : Nat, a ≤ k ∧ t = .int .i64 (a : Int) ∧ q = .int .i64 ((r : Int) + (a : Int)) ∧ Hid (∀ b, b < a → df Q H k b ≤ r + b)) (fun _ t => k - (intOf t).toNat)
      case atStart => exact ⟨0, by omega, rfl, by go_num, fun b hb => by omega⟩
      case round =>
        obtain ⟨a, hak, rfl, rfl, HA⟩ := hrel
        have a0 : (0 : Int) ≤ (a : Int) := by omega
        have a1 : (a : Int) ≤ (k : Int) := by omega
        by_cases hlt2 : a < k
        · have ga : (a : Int) < (k : Int) := by omega
          have a19 : (a : Int) < 19 := by omega
          have c0 := hD.cell a (by omega)
          by_cases hle : df Q H k a ≤ r + a
          · have gle : ((df Q H k a : Nat) : Int) ≤ (r : Int) + (a : Int) := by omega
            have HA2 : Hid (∀ b, b < a + 1 → df Q H k b ≤ r + b) := fun b hb => by
              by_cases e : b = a
              · subst e; exact hle
              · exact HA.out b (by omega)
            clear hle
            go_wp2_with fail
            go_round
            case rel => exact ⟨a + 1, by omega, by go_num, by go_num, HA2⟩
            case measure => simp [intOf]; omega
          · have gle : ¬ ((df Q H k a : Nat) : Int) ≤ (r : Int) + (a : Int) := by omega
            have HS : Hid (Deal.bq (Deal.dl Q H k) (Deal.rk Q H k) = r + a ∧ Deal.ins (Deal.dl Q H k) (Deal.rk Q H k) = (Deal.dl Q H k).take a ++ ((r + a) :: (Deal.dl Q H k).drop a)) := by
              rw [Hr.out]
              exact Deal.stop a _ r (by rw [Deal.length_dl]; omega) (fun b hb => HA.out b hb) (.inr (by have : ¬ (Deal.dl Q H k).getD a 0 ≤ r + a := hle; omega))
            clear hle
            go_wp2_with fail
            clear c0
            refine wp_region_noPanic ?_
            refine wp_region_held_drew (S := fun _ => True) (by kernel_rfl) trivial (fun hHeld => ?_)
            refine Held.take (i := 0) (some 44) (.int .i64 (a : Int)) rfl rfl (by kernel_rfl) (by kernel_rfl) (by kernel_rfl) (fun _ _ _ h => h) (Held.yields_move (by rfl) (.tmp 12) (.inl rfl)) hHeld ?_
            simp only [Act.put, List.setIfInBounds_toArray, List.set_cons_zero, List.set_cons_succ]
            refine Held.take (i := 1) (some 45) (.int .i64 ((a + 1 : Nat) : Int)) rfl rfl (by kernel_rfl) (by kernel_rfl) (by kernel_rfl) (fun _ _ _ h => h) (Held.yields_binOp (by rfl) _ _ _ _ _ rfl _ _ _ rfl rfl (add1 a (by omega) _ _)) hHeld ?_
            simp only [Act.put, List.setIfInBounds_toArray, List.set_cons_zero, List.set_cons_succ]
            refine Held.take (i := 2) (some 46) (.int .i64 (k : Int)) rfl rfl (by kernel_rfl) (by kernel_rfl) (by kernel_rfl) (fun _ _ _ h => h) (Held.yields_move (by rfl) (.tmp 9) (.inl rfl)) hHeld ?_
            simp only [Act.put, List.setIfInBounds_toArray, List.set_cons_zero, List.set_cons_succ]
            refine Held.take (i := 3) (some 47) (.int .i64 ((k + 1 : Nat) : Int)) rfl rfl (by kernel_rfl) (by kernel_rfl) (by kernel_rfl) (fun _ _ _ h => h) (Held.yields_binOp (by rfl) _ _ _ _ _ rfl _ _ _ rfl rfl (add1 k (by omega) _ _)) hHeld ?_
            simp only [Act.put, List.setIfInBounds_toArray, List.set_cons_zero, List.set_cons_succ]
            obtain ⟨dp, hdp, hdp'⟩ := slice23 (w.heap.size + 1 + 1) (a + 1) (k + 1) (by omega) (by omega)
            obtain ⟨sp, hsp, hsp'⟩ := slice23 (w.heap.size + 1 + 1) a k (by omega) (by omega)
            refine Held.take (i := 4) (some 48) (.slice dp (k + 1 - (a + 1)) (19 - (a + 1))) rfl rfl (by kernel_rfl) (by kernel_rfl) (by kernel_rfl) (fun _ _ _ h => h) (Held.yields_slice (by rfl) _ _ _ _ rfl _ _ _ _ rfl rfl rfl hdp) hHeld ?_
            simp only [Act.put, List.setIfInBounds_toArray, List.set_cons_zero, List.set_cons_succ]
            refine Held.take (i := 5) (some 49) (.int .i64 (a : Int)) rfl rfl (by kernel_rfl) (by kernel_rfl) (by kernel_rfl) (fun _ _ _ h => h) (Held.yields_move (by rfl) (.tmp 12) (.inl rfl)) hHeld ?_
            simp only [Act.put, List.setIfInBounds_toArray, List.set_cons_zero, List.set_cons_succ]
            refine Held.take (i := 6) (some 50) (.int .i64 (k : Int)) rfl rfl (by kernel_rfl) (by kernel_rfl) (by kernel_rfl) (fun _ _ _ h => h) (Held.yields_move (by rfl) (.tmp 9) (.inl rfl)) hHeld ?_
            simp only [Act.put, List.setIfInBounds_toArray, List.set_cons_zero, List.set_cons_succ]
            refine Held.take (i := 7) (some 51) (.slice sp (k - a) (19 - a)) rfl rfl (by kernel_rfl) (by kernel_rfl) (by kernel_rfl) (fun _ _ _ h => h) (Held.yields_slice (by rfl) _ _ _ _ rfl _ _ _ _ rfl rfl rfl hsp) hHeld ?_
            simp only [Act.put, List.setIfInBounds_toArray, List.set_cons_zero, List.set_cons_succ]
            have hlen : (((hl (df Q H k)).drop a).take (k - a)).length = k - a := by simp [hl_len]; omega
            refine Held.ready_copy (i := 8) (some 52) _ _ 33 33 rfl rfl rfl rfl (by kernel_rfl) 3 Trym.underlying33 info3 dp sp _ _ _ _ rfl rfl (w.heap.size + 1 + 1) (a + 1) (hl (df Q H k)) 23 hD (((hl (df Q H k)).drop a).take (k - a)) ?_ ?_ ?_ ?_ (w.heap.size + 1 + 1) wr.drew (Below.refl _ _) (Nat.le_refl _) ?_
            · rw [hlen]; simp only [Nat.min_def]; split <;> omega
            · intro hp
              rw [hlen] at hp
              refine ⟨hdp' (by omega), _, hsp' (by omega), fun j v hv => ?_⟩
              rw [Addr.add_mid, World.cell?_drew, cell_of_row wr _ _ _ 23 _ hD]
              simpa using cells_drop _ _ _ j v hv
            · rw [hlen, hl_len]; omega
            · exact fun v hv => hl_one _ v (List.mem_of_mem_drop (List.mem_of_mem_take hv))
            intro w2 hD2 hb2
            refine ⟨trivial, ?_⟩
            simp only [Act.put, List.setIfInBounds_toArray, List.set_cons_zero, List.set_cons_succ]
            rw [splice_hl _ a k (by omega) (by omega)] at hD2
            have hB2 : Below w.heap.size w w2 := hB.drew.trans (hb2.mono (by omega))
            have hR2 : HoldsH w2 w.heap.size z0 0 := (hb2.block _ (by omega)).trans hR
            have hH2 : HoldsH w2 (w.heap.size + 1) (qf Q H k) (n : Int) := (hb2.block _ (by omega)).trans hHd
            have hD3 : HoldsD w2 (w.heap.size + 1 + 1) fun i => if a + 1 ≤ i ∧ i ≤ k then df Q H k (i - 1) else df Q H k i := hD2
            clear hD2 hb2 hB hR hHd hD hHeld hlen hdp hdp' hsp hsp'
            refine wpAnyH_done (by kernel_rfl) ?_ _
            refine NoPanic.normal ?_
            have c1 := hD3.cell a (by omega)
            have c2 := hD3.frozen a
            have c3 := hH2.cell k (by omega)
            have c4 := hH2.frozen k
            have a2 : (a : Int) < 19 := by omega
            have k2 : (k : Int) < 19 := by omega
            have er : ((r : Int) + (a : Int)) = ((r + a : Nat) : Int) := by omega
            have hD4 : HoldsD ((w2.setCell ⟨w.heap.size + 1 + 1, a, none⟩ (.int .i64 ((r + a : Nat) : Int))).setCell ⟨w.heap.size + 1, k, none⟩ (.int .i64 ((r + a : Nat) : Int))) (w.heap.size + 1 + 1) (df Q H (k + 1)) :=
              (heap_setCell_other _ _ _ _ (by simp)).trans ((hD3.set a (r + a)).congr fun i hi => row_after Q H k a r HS.out hak i)
            have hH4 : HoldsH ((w2.setCell ⟨w.heap.size + 1 + 1, a, none⟩ (.int .i64 ((r + a : Nat) : Int))).setCell ⟨w.heap.size + 1, k, none⟩ (.int .i64 ((r + a : Nat) : Int))) (w.heap.size + 1) (qf Q H (k + 1)) (n : Int) := by
              have h0 : HoldsH (w2.setCell ⟨w.heap.size + 1 + 1, a, none⟩ (.int .i64 ((r + a : Nat) : Int))) (w.heap.size + 1) (qf Q H k) (n : Int) := (heap_setCell_other _ _ _ _ (by simp)).trans hH2
              exact (h0.set k (r + a) (by omega)).congr fun i _ => qf_succ Q H k a r HS.out i
            have hR4 : HoldsH ((w2.setCell ⟨w.heap.size + 1 + 1, a, none⟩ (.int .i64 ((r + a : Nat) : Int))).setCell ⟨w.heap.size + 1, k, none⟩ (.int .i64 ((r + a : Nat) : Int))) w.heap.size z0 0 :=
              (heap_setCell_other _ _ _ _ (by simp)).trans ((heap_setCell_other _ _ _ _ (by simp; omega)).trans hR2)
            have hB4 : Below w.heap.size w ((w2.setCell ⟨w.heap.size + 1 + 1, a, none⟩ (.int .i64 ((r + a : Nat) : Int))).setCell ⟨w.heap.size + 1, k, none⟩ (.int .i64 ((r + a : Nat) : Int))) := (hB2.setCell (by simp; omega) _).setCell (by simp) _
            rw [← er] at hD4 hH4 hR4 hB4
            clear er hD3 hH2 hR2 hB2
            go_wp2_with fail
            go_roundw
            case rel => exact ⟨k + 1, by omega, by rw [HN.out, Int.natCast_ediv], by go_num, hB4, hR4, hH4, hD4⟩
            case measure => simp [intOf]; omega
        · have ga : decide ((a : Int) < (k : Int)) = false := by simp; omega
          have HS : Hid (Deal.bq (Deal.dl Q H k) (Deal.rk Q H k) = r + a ∧ Deal.ins (Deal.dl Q H k) (Deal.rk Q H k) = (Deal.dl Q H k).take a ++ ((r + a) :: (Deal.dl Q H k).drop a)) := by
            rw [Hr.out]
            exact Deal.stop a _ r (by rw [Deal.length_dl]; omega) (fun b hb => HA.out b hb) (.inl (by rw [Deal.length_dl]; omega))
          go_wp2_with fail
          refine wp_region_noPanic ?_
          refine wp_region_held_drew (S := fun _ => True) (by kernel_rfl) trivial (fun hHeld => ?_)
          refine Held.take (i := 0) (some 44) (.int .i64 (a : Int)) rfl rfl (by kernel_rfl) (by kernel_rfl) (by kernel_rfl) (fun _ _ _ h => h) (Held.yields_move (by rfl) (.tmp 12) (.inl rfl)) hHeld ?_
          simp only [Act.put, List.setIfInBounds_toArray, List.set_cons_zero, List.set_cons_succ]
          refine Held.take (i := 1) (some 45) (.int .i64 ((a + 1 : Nat) : Int)) rfl rfl (by kernel_rfl) (by kernel_rfl) (by kernel_rfl) (fun _ _ _ h => h) (Held.yields_binOp (by rfl) _ _ _ _ _ rfl _ _ _ rfl rfl (add1 a (by omega) _ _)) hHeld ?_
          simp only [Act.put, List.setIfInBounds_toArray, List.set_cons_zero, List.set_cons_succ]
          refine Held.take (i := 2) (some 46) (.int .i64 (k : Int)) rfl rfl (by kernel_rfl) (by kernel_rfl) (by kernel_rfl) (fun _ _ _ h => h) (Held.yields_move (by rfl) (.tmp 9) (.inl rfl)) hHeld ?_
          simp only [Act.put, List.setIfInBounds_toArray, List.set_cons_zero, List.set_cons_succ]
          refine Held.take (i := 3) (some 47) (.int .i64 ((k + 1 : Nat) : Int)) rfl rfl (by kernel_rfl) (by kernel_rfl) (by kernel_rfl) (fun _ _ _ h => h) (Held.yields_binOp (by rfl) _ _ _ _ _ rfl _ _ _ rfl rfl (add1 k (by omega) _ _)) hHeld ?_
          simp only [Act.put, List.setIfInBounds_toArray, List.set_cons_zero, List.set_cons_succ]
          obtain ⟨dp, hdp, hdp'⟩ := slice23 (w.heap.size + 1 + 1) (a + 1) (k + 1) (by omega) (by omega)
          obtain ⟨sp, hsp, hsp'⟩ := slice23 (w.heap.size + 1 + 1) a k (by omega) (by omega)
          refine Held.take (i := 4) (some 48) (.slice dp (k + 1 - (a + 1)) (19 - (a + 1))) rfl rfl (by kernel_rfl) (by kernel_rfl) (by kernel_rfl) (fun _ _ _ h => h) (Held.yields_slice (by rfl) _ _ _ _ rfl _ _ _ _ rfl rfl rfl hdp) hHeld ?_
          simp only [Act.put, List.setIfInBounds_toArray, List.set_cons_zero, List.set_cons_succ]
          refine Held.take (i := 5) (some 49) (.int .i64 (a : Int)) rfl rfl (by kernel_rfl) (by kernel_rfl) (by kernel_rfl) (fun _ _ _ h => h) (Held.yields_move (by rfl) (.tmp 12) (.inl rfl)) hHeld ?_
          simp only [Act.put, List.setIfInBounds_toArray, List.set_cons_zero, List.set_cons_succ]
          refine Held.take (i := 6) (some 50) (.int .i64 (k : Int)) rfl rfl (by kernel_rfl) (by kernel_rfl) (by kernel_rfl) (fun _ _ _ h => h) (Held.yields_move (by rfl) (.tmp 9) (.inl rfl)) hHeld ?_
          simp only [Act.put, List.setIfInBounds_toArray, List.set_cons_zero, List.set_cons_succ]
          refine Held.take (i := 7) (some 51) (.slice sp (k - a) (19 - a)) rfl rfl (by kernel_rfl) (by kernel_rfl) (by kernel_rfl) (fun _ _ _ h => h) (Held.yields_slice (by rfl) _ _ _ _ rfl _ _ _ _ rfl rfl rfl hsp) hHeld ?_
          simp only [Act.put, List.setIfInBounds_toArray, List.set_cons_zero, List.set_cons_succ]
          have hlen : (((hl (df Q H k)).drop a).take (k - a)).length = k - a := by simp [hl_len]; omega
          refine Held.ready_copy (i := 8) (some 52) _ _ 33 33 rfl rfl rfl rfl (by kernel_rfl) 3 Trym.underlying33 info3 dp sp _ _ _ _ rfl rfl (w.heap.size + 1 + 1) (a + 1) (hl (df Q H k)) 23 hD (((hl (df Q H k)).drop a).take (k - a)) ?_ ?_ ?_ ?_ (w.heap.size + 1 + 1) wr.drew (Below.refl _ _) (Nat.le_refl _) ?_
          · rw [hlen]; simp only [Nat.min_def]; split <;> omega
          · intro hp
            rw [hlen] at hp
            refine ⟨hdp' (by omega), _, hsp' (by omega), fun j v hv => ?_⟩
            rw [Addr.add_mid, World.cell?_drew, cell_of_row wr _ _ _ 23 _ hD]
            simpa using cells_drop _ _ _ j v hv
          · rw [hlen, hl_len]; omega
          · exact fun v hv => hl_one _ v (List.mem_of_mem_drop (List.mem_of_mem_take hv))
          intro w2 hD2 hb2
          refine ⟨trivial, ?_⟩
          simp only [Act.put, List.setIfInBounds_toArray, List.set_cons_zero, List.set_cons_succ]
          rw [splice_hl _ a k (by omega) (by omega)] at hD2
          have hB2 : Below w.heap.size w w2 := hB.drew.trans (hb2.mono (by omega))
          have hR2 : HoldsH w2 w.heap.size z0 0 := (hb2.block _ (by omega)).trans hR
          have hH2 : HoldsH w2 (w.heap.size + 1) (qf Q H k) (n : Int) := (hb2.block _ (by omega)).trans hHd
          have hD3 : HoldsD w2 (w.heap.size + 1 + 1) fun i => if a + 1 ≤ i ∧ i ≤ k then df Q H k (i - 1) else df Q H k i := hD2
          clear hD2 hb2 hB hR hHd hD hHeld hlen hdp hdp' hsp hsp'
          refine wpAnyH_done (by kernel_rfl) ?_ _
          refine NoPanic.normal ?_
          have c1 := hD3.cell a (by omega)
          have c2 := hD3.frozen a
          have c3 := hH2.cell k (by omega)
          have c4 := hH2.frozen k
          have a2 : (a : Int) < 19 := by omega
          have k2 : (k : Int) < 19 := by omega
          have er : ((r : Int) + (a : Int)) = ((r + a : Nat) : Int) := by omega
          have hD4 : HoldsD ((w2.setCell ⟨w.heap.size + 1 + 1, a, none⟩ (.int .i64 ((r + a : Nat) : Int))).setCell ⟨w.heap.size + 1, k, none⟩ (.int .i64 ((r + a : Nat) : Int))) (w.heap.size + 1 + 1) (df Q H (k + 1)) :=
            (heap_setCell_other _ _ _ _ (by simp)).trans ((hD3.set a (r + a)).congr fun i hi => row_after Q H k a r HS.out hak i)
          have hH4 : HoldsH ((w2.setCell ⟨w.heap.size + 1 + 1, a, none⟩ (.int .i64 ((r + a : Nat) : Int))).setCell ⟨w.heap.size + 1, k, none⟩ (.int .i64 ((r + a : Nat) : Int))) (w.heap.size + 1) (qf Q H (k + 1)) (n : Int) := by
            have h0 : HoldsH (w2.setCell ⟨w.heap.size + 1 + 1, a, none⟩ (.int .i64 ((r + a : Nat) : Int))) (w.heap.size + 1) (qf Q H k) (n : Int) := (heap_setCell_other _ _ _ _ (by simp)).trans hH2
            exact (h0.set k (r + a) (by omega)).congr fun i _ => qf_succ Q H k a r HS.out i
          have hR4 : HoldsH ((w2.setCell ⟨w.heap.size + 1 + 1, a, none⟩ (.int .i64 ((r + a : Nat) : Int))).setCell ⟨w.heap.size + 1, k, none⟩ (.int .i64 ((r + a : Nat) : Int))) w.heap.size z0 0 :=
            (heap_setCell_other _ _ _ _ (by simp)).trans ((heap_setCell_other _ _ _ _ (by simp; omega)).trans hR2)
          have hB4 : Below w.heap.size w ((w2.setCell ⟨w.heap.size + 1 + 1, a, none⟩ (.int .i64 ((r + a : Nat) : Int))).setCell ⟨w.heap.size + 1, k, none⟩ (.int .i64 ((r + a : Nat) : Int))) := (hB2.setCell (by simp; omega) _).setCell (by simp) _
          rw [← er] at hD4 hH4 hR4 hB4
          clear er hD3 hH2 hR2 hB2
          go_wp2_with fail
          go_roundw
          case rel => exact ⟨k + 1, by omega, by rw [HN.out, Int.natCast_ediv], by go_num, hB4, hR4, hH4, hD4⟩
          case measure => simp [intOf]; omega
    · have g0 : ¬ (k : Int) < (n : Int) := by omega
      obtain rfl : k = n := by omega
      go_wp2_with (first
        | (refine wpList_load_row rfl 31 _ rfl (w.heap.size + 1) rfl 31 _ (0, 0) _ hHd Trym.underlying31 rfl (info31 _ _) ?_)
        | (refine wpList_store_row rfl 31 _ _ rfl w.heap.size _ rfl rfl 31 _ hR (info31 _ _) (by rw [hCells_size, hCells_size]) (hCells_all _ _) ?_))
      exact bodyPost_ret (results_cell_row Trym.results12 _ _ w.heap.size 31 _ (0, 0) _ rfl (setRow_heap _ _ _ _ 31 _ hR) Trym.underlying31 rfl (info31 _ _)) rfl ⟨rfl, below_setRow' hB _ (Nat.le_refl _) _⟩

end Go.Proofs.Qxb6600147aMods
