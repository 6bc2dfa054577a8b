import Derived.Test.Qxb6600147aModsRows
import Derived.Deep.RegionHeld3
import Derived.Deep.MidRow
import Derived.Deep.LoopGhost
import Derived.Laws.BitsAllLaws
import Derived.Laws.CopyOwn
import Derived.WalkKit
import Derived.ProofKit
namespace Go.Proofs.Qxb6600147aMods
open Go.ChangeShapes Go.WideShapes Go.ChangeAt Go.RowKit

/-! ### nineteen ints as cells -/
def hl (f : Nat → Nat) : List Value := (List.range 19).map fun i => Value.int .i64 ((f i : Nat) : Int)
theorem hl_len (f : Nat → Nat) : (hl f).length = 19 := by simp [hl]
theorem hl_size (f : Nat → Nat) : (hl f).toArray.size = 19 := by simp [hl]
theorem hl_get (f : Nat → Nat) (j : Nat) (hj : j < 19) : (hl f)[j]? = some (.int .i64 ((f j : Nat) : Int)) := by
  simp [hl, hj]
theorem hl_ext (f g : Nat → Nat) (h : ∀ i, i < 19 → f i = g i) : hl f = hl g := by
  unfold hl
  exact List.map_congr_left (fun i hi => by rw [h i (by simpa using hi)])
theorem hl_one (f : Nat → Nat) : ∀ v ∈ hl f, v.oneCell' = true := by
  intro v hv
  simp only [hl, List.mem_map] at hv
  obtain ⟨i, _, rfl⟩ := hv
  rfl
theorem hl_all (f : Nat → Nat) : (hl f).toArray.all (·.oneCell') = true := all_oneCell_toArray (hl_one f)
theorem hl_list (l : List Value) (f : Nat → Nat) (hl' : l.length = 19) (h : ∀ j, j < 19 → l[j]? = some (.int .i64 ((f j : Nat) : Int))) : l = hl f := by
  refine List.ext_getElem? fun j => ?_
  by_cases hj : j < 19
  · rw [h j hj, hl_get f j hj]
  · rw [List.getElem?_eq_none (by omega), List.getElem?_eq_none (by rw [hl_len]; omega)]
theorem hl_set (f : Nat → Nat) (k v : Nat) : (hl f).set k (.int .i64 (v : Int)) = hl fun i => if i = k then v else f i := by
  refine hl_list _ _ (by rw [List.length_set, hl_len]) fun j hj => ?_
  rw [List.getElem?_set]
  by_cases e : k = j
  · subst e
    rw [if_pos rfl, hl_len, if_pos hj, if_pos rfl]
  · rw [if_neg e, hl_get _ j hj, if_neg (fun h => e h.symm)]

/-- block b holds the nineteen ints f -/
def HoldsD (w : World) (b : Nat) (f : Nat → Nat) : Prop := w.heap[b]? = some (.cells (hl f).toArray 23 (0, 0))
/-- block b holds a hand -/
def hCells (f : Nat → Nat) (s : Int) : List Value := hl f ++ [.int .i64 s]
def HoldsH (w : World) (b : Nat) (f : Nat → Nat) (s : Int) : Prop := w.heap[b]? = some (.cells (hCells f s).toArray 31 (0, 0))
theorem hCells_len (f : Nat → Nat) (s : Int) : (hCells f s).length = 20 := by simp [hCells, hl_len]
theorem hCells_size (f : Nat → Nat) (s : Int) : (hCells f s).toArray.size = 20 := by rw [List.size_toArray, hCells_len]
theorem hCells_all (f : Nat → Nat) (s : Int) : (hCells f s).toArray.all (·.oneCell') = true := by
  refine all_oneCell_toArray fun v hv => ?_
  simp only [hCells, List.mem_append, List.mem_cons, List.not_mem_nil, or_false] at hv
  rcases hv with hv | rfl
  · exact hl_one _ v hv
  · rfl

section
variable {w : World} {b : Nat} {f : Nat → Nat} {s : Int}
theorem heap_lt {o : Obj} (h : w.heap[b]? = some o) : b < w.heap.size := by
  by_cases hlt : b < w.heap.size
  · exact hlt
  · rw [Array.getElem?_eq_none (by omega)] at h; cases h
theorem heap_after {w1 : World} {o : Obj} (hb : Below w.heap.size w w1) (h : w.heap[b]? = some o) : w1.heap[b]? = some o := by
  rw [hb.block b (heap_lt h), h]
theorem heap_alloc {o : Obj} (h : w.heap[b]? = some o) (x : Obj) : (w.alloc x).heap[b]? = some o := by
  rw [Below.heap_alloc w x b (heap_lt h), h]
theorem HoldsD.cell (h : HoldsD w b f) (j : Nat) (hj : j < 19) : w.cell? ⟨b, j, none⟩ = some (.int .i64 ((f j : Nat) : Int)) := by
  rw [cell_of_row w b j _ 23 _ h]
  simpa using hl_get f j hj
theorem HoldsD.frozen (h : HoldsD w b f) (j : Nat) : w.frozen? ⟨b, j, none⟩ = false := frozen_of_row w b j _ 23 h
theorem HoldsD.congr (h : HoldsD w b f) {g : Nat → Nat} (e : ∀ i, i < 19 → f i = g i) : HoldsD w b g := by
  unfold HoldsD at *; rw [h, hl_ext f g e]
theorem HoldsD.set (h : HoldsD w b f) (k v : Nat) : HoldsD (w.setCell ⟨b, k, none⟩ (.int .i64 (v : Int))) b fun i => if i = k then v else f i := by
  unfold HoldsD at *
  rw [heap_setCell_same w b k _ 23 _ h, List.setIfInBounds_toArray, hl_set]
theorem HoldsH.cell (h : HoldsH w b f s) (j : Nat) (hj : j < 19) : w.cell? ⟨b, j, none⟩ = some (.int .i64 ((f j : Nat) : Int)) := by
  rw [cell_of_row w b j _ 31 _ h]
  simp only [hCells, List.getElem?_toArray]
  rw [List.getElem?_append_left (by rw [hl_len]; exact hj), hl_get f j hj]
theorem HoldsH.size (h : HoldsH w b f s) : w.cell? ⟨b, 19, none⟩ = some (.int .i64 s) := by
  rw [cell_of_row w b 19 _ 31 _ h]
  simp [hCells, hl_len]
theorem HoldsH.range (h : HoldsH w b f s) : w.rangeAt b 0 (hl f) := fun j v hv => by
  have hj : j < (hl f).length := (List.getElem?_eq_some_iff.1 hv).1
  rw [Nat.zero_add, cell_of_row w b j _ 31 _ h]
  simp only [hCells, List.getElem?_toArray]
  rw [List.getElem?_append_left hj, hv]
theorem HoldsH.frozen (h : HoldsH w b f s) (j : Nat) : w.frozen? ⟨b, j, none⟩ = false := frozen_of_row w b j _ 31 h
theorem HoldsH.congr (h : HoldsH w b f s) {g : Nat → Nat} (e : ∀ i, i < 19 → f i = g i) : HoldsH w b g s := by
  unfold HoldsH hCells at *; rw [h, hl_ext f g e]
theorem HoldsH.set (h : HoldsH w b f s) (k v : Nat) (hk : k < 19) : HoldsH (w.setCell ⟨b, k, none⟩ (.int .i64 (v : Int))) b (fun i => if i = k then v else f i) s := by
  unfold HoldsH hCells at *
  rw [heap_setCell_same w b k _ 31 _ h, List.setIfInBounds_toArray, List.set_append_left _ _ (by rw [hl_len]; exact hk), hl_set]
end
theorem below_setRow' {B : Nat} {a w : World} (h : Below B a w) (g : Nat) (hg : B ≤ g) (cs : Array Value) : Below B a (w.setRow g cs) :=
  h.trans ⟨rfl, rfl, rfl, by simp, fun k hk => setRow_other w g k cs (by omega)⟩
theorem below_on {B : Nat} {w a b : World} (h : Below B w a) (hB : B ≤ w.heap.size) (k : Below a.heap.size a b) : Below B w b := h.trans (k.mono (Nat.le_trans hB h.size))
theorem info23 (f : Nat → Nat) : (Trym.prog.info? 23).map (·.size) = some (hl f).toArray.size := by rw [hl_size]; kernel_rfl
theorem info23l (f : Nat → Nat) : (Trym.prog.info? 23).map (·.size) = some (hl f).length := by rw [hl_len]; kernel_rfl
theorem info31 (f : Nat → Nat) (s : Int) : (Trym.prog.info? 31).map (·.size) = some (hCells f s).toArray.size := by rw [hCells_size]; kernel_rfl
theorem built31 (s : Int) : Trym.prog.built 31 [(1, .int .i64 s)] = some (hCells (fun _ => 0) s).toArray := by kernel_rfl

theorem slice23 (g lo hi : Nat) (h1 : lo ≤ hi) (h2 : hi ≤ 19) : ∃ dp, (∀ w : World, (Instr.sliceAt 23 (.pointer (some ⟨g, 0, none⟩)) (some (.int .i64 (lo : Int))) (some (.int .i64 (hi : Int))) none).run Trym.prog w = .ok (.slice dp (hi - lo) (19 - lo)) w) ∧ (lo < hi → dp = some ⟨g, lo, none⟩) := by
  refine ⟨some (if 19 = lo then ⟨g, 0, none⟩ else ⟨g, lo, none⟩), fun w => ?_, fun h => by rw [if_neg (by omega)]⟩
  have a1 : (lo : Int) ≤ (hi : Int) := by omega
  have a2 : (hi : Int) ≤ 19 := by omega
  simp [go_sem, a1, a2]
/-- the row behind 'copy(d[a+1:k+1], d[a:k])' -/
theorem splice_hl (f : Nat → Nat) (a k : Nat) (ha : a ≤ k) (hk : k < 19) : splice (hl f) (a + 1) (((hl f).drop a).take (k - a)) = hl fun i => if a + 1 ≤ i ∧ i ≤ k then f (i - 1) else f i := by
  have hlen : (((hl f).drop a).take (k - a)).length = k - a := by simp [hl_len]; omega
  refine hl_list _ _ (by rw [length_splice _ _ _ (by rw [hlen, hl_len]; omega), hl_len]) fun j hj => ?_
  unfold splice
  rw [hlen]
  by_cases h1 : j < a + 1
  · rw [List.getElem?_append_left (by simp [hl_len]; omega), List.getElem?_take_of_lt h1, hl_get f j hj, if_neg (by omega)]
  · rw [List.getElem?_append_right (by simp [hl_len]; omega)]
    have e1 : j - (List.take (a + 1) (hl f)).length = j - (a + 1) := by simp [hl_len]; omega
    rw [e1]
    by_cases h2 : j ≤ k
    · rw [List.getElem?_append_left (by rw [hlen]; omega), List.getElem?_take_of_lt (by omega), List.getElem?_drop, show a + (j - (a + 1)) = j - 1 from by omega, hl_get f (j - 1) (by omega), if_pos ⟨by omega, h2⟩]
    · rw [List.getElem?_append_right (by rw [hlen]; omega), hlen, List.getElem?_drop, show a + 1 + (k - a) + (j - (a + 1) - (k - a)) = j from by omega, hl_get f j hj, if_neg (by omega)]
theorem cells_drop (f : Nat → Nat) (a n : Nat) (j : Nat) (v : Value) (h : (((hl f).drop a).take n)[j]? = some v) : (hl f)[a + j]? = some v := by
  have hj : j < n := by
    have := (List.getElem?_eq_some_iff.1 h).1
    simp at this
    omega
  rw [List.getElem?_take_of_lt hj, List.getElem?_drop] at h
  exact h
theorem info3 : (Trym.prog.info? 3).map (·.size) = some 1 := by kernel_rfl

end Go.Proofs.Qxb6600147aMods
