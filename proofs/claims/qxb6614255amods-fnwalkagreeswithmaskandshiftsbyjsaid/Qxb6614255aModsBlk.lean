import Derived.Test.Qxb6614255aModsRows
import Derived.Laws.BitsAllLaws
import Derived.Deep.RegionHeld3
import Derived.Deep.MidRow
import Derived.Deep.DrawnRows
import Derived.WalkKit
import Derived.ProofKit
namespace Go.Proofs.Qxb6614255aMods
open Go.ChangeShapes Go.WideShapes Go.ChangeAt Go.RowKit

/-! ### sixteen bytes as cells -/
def bl (f : Nat → Nat) : List Value := (List.range 16).map fun i => Value.int .u8 ((f i : Nat) : Int)
theorem bl_len (f : Nat → Nat) : (bl f).length = 16 := by simp [bl]
theorem bl_size (f : Nat → Nat) : (bl f).toArray.size = 16 := by simp [bl]
theorem bl_get (f : Nat → Nat) (j : Nat) (hj : j < 16) : (bl f)[j]? = some (.int .u8 ((f j : Nat) : Int)) := by
  simp [bl, hj]
theorem bl_ext (f g : Nat → Nat) (h : ∀ i, i < 16 → f i = g i) : bl f = bl g := by
  unfold bl
  exact List.map_congr_left (fun i hi => by rw [h i (by simpa using hi)])
theorem bl_inj (f g : Nat → Nat) (h : bl f = bl g) (i : Nat) (hi : i < 16) : f i = g i := by
  have e := congrArg (fun l : List Value => l[i]?) h
  simp only [bl_get _ i hi, Option.some.injEq, Value.int.injEq, Int.natCast_inj, true_and] at e
  exact e
theorem bl_one (f : Nat → Nat) : ∀ v ∈ bl f, v.oneCell' = true := by
  intro v hv
  simp only [bl, List.mem_map] at hv
  obtain ⟨i, _, rfl⟩ := hv
  rfl
theorem bl_all (f : Nat → Nat) : (bl f).toArray.all (·.oneCell') = true := all_oneCell_toArray (bl_one f)
theorem bl_set (f : Nat → Nat) (k v : Nat) : (bl f).toArray.setIfInBounds k (.int .u8 (v : Int)) = (bl fun i => if i = k then v else f i).toArray := by
  rw [List.setIfInBounds_toArray]
  congr 1
  refine List.ext_getElem? fun j => ?_
  rw [List.getElem?_set]
  by_cases hj : j < 16
  · rw [bl_get (fun i => if i = k then v else f i) j hj]
    by_cases e : k = j
    · subst e
      rw [if_pos rfl, bl_len, if_pos hj, if_pos rfl]
    · rw [if_neg e, bl_get _ j hj, if_neg (fun h => e h.symm)]
  · have l1 := bl_len f
    have l2 := bl_len fun i => if i = k then v else f i
    rw [List.getElem?_eq_none (l := bl fun i => if i = k then v else f i) (by omega), List.getElem?_eq_none (l := bl f) (by omega)]
    split
    · rw [if_neg (by omega)]
    · rfl
theorem bl_zero : (bl fun _ => 0) = [Value.int IntKind.u8 0, Value.int IntKind.u8 0, Value.int IntKind.u8 0, Value.int IntKind.u8 0,
      Value.int IntKind.u8 0, Value.int IntKind.u8 0, Value.int IntKind.u8 0, Value.int IntKind.u8 0,
      Value.int IntKind.u8 0, Value.int IntKind.u8 0, Value.int IntKind.u8 0, Value.int IntKind.u8 0,
      Value.int IntKind.u8 0, Value.int IntKind.u8 0, Value.int IntKind.u8 0, Value.int IntKind.u8 0] := rfl

/-- block b of w holds the sixteen bytes f -/
def Holds16 (w : World) (b : Nat) (t : TypeId) (f : Nat → Nat) : Prop := w.heap[b]? = some (.cells (bl f).toArray t (0, 0))

section
variable {w : World} {b : Nat} {t : TypeId} {f : Nat → Nat}
theorem Holds16.cell (h : Holds16 w b t f) (j : Nat) (hj : j < 16) : w.cell? ⟨b, j, none⟩ = some (.int .u8 ((f j : Nat) : Int)) := by
  rw [cell_of_row w b j _ t _ h]
  simpa using bl_get f j hj
theorem Holds16.frozen (h : Holds16 w b t f) (j : Nat) : w.frozen? ⟨b, j, none⟩ = false := frozen_of_row w b j _ t h
theorem Holds16.lt (h : Holds16 w b t f) : b < w.heap.size := by
  by_cases hlt : b < w.heap.size
  · exact hlt
  · unfold Holds16 at h
    rw [Array.getElem?_eq_none (by omega)] at h
    cases h
theorem Holds16.congr (h : Holds16 w b t f) {g : Nat → Nat} (e : ∀ i, i < 16 → f i = g i) : Holds16 w b t g := by
  unfold Holds16 at *
  rw [h, bl_ext f g e]
theorem Holds16.set (h : Holds16 w b t f) (k v : Nat) : Holds16 (w.setCell ⟨b, k, none⟩ (.int .u8 (v : Int))) b t fun i => if i = k then v else f i := by
  unfold Holds16 at *
  rw [heap_setCell_same w b k _ t _ h, bl_set]
theorem Holds16.other (h : Holds16 w b t f) (b' k : Nat) (v : Value) (hne : b ≠ b') : Holds16 (w.setCell ⟨b', k, none⟩ v) b t f := by
  unfold Holds16 at *
  rw [heap_setCell_other w _ b v hne, h]
theorem Holds16.drew (h : Holds16 w b t f) : Holds16 w.drew b t f := h
theorem Holds16.alloc (h : Holds16 w b t f) (o : Obj) : Holds16 (w.alloc o) b t f := by
  have := h.lt
  unfold Holds16 at *
  rw [Below.heap_alloc w o b this, h]
theorem Holds16.new (w : World) (t : TypeId) (f : Nat → Nat) : Holds16 (w.alloc (.cells (bl f).toArray t)) w.heap.size t f := heap_alloc_new w _
theorem Holds16.below {w' : World} {B : Nat} (h : Holds16 w b t f) (hb : Below B w w') (hB : b < B) : Holds16 w' b t f := by
  unfold Holds16 at *
  rw [hb.block b hB, h]
theorem Holds16.setRow (h : Holds16 w b t f) (g : Nat → Nat) : Holds16 (w.setRow b (bl g).toArray) b t g := setRow_heap w b _ _ t _ h
theorem Holds16.otherRow (h : Holds16 w b t f) (b' : Nat) (cs : Array Value) (hne : b ≠ b') : Holds16 (w.setRow b' cs) b t f := by
  unfold Holds16 at *
  rw [setRow_other w b' b cs hne, h]
theorem Holds16.range (h : Holds16 w b t f) : w.rangeAt b 0 (bl f) := fun j v hv => by
  rw [Nat.zero_add, cell_of_row w b j _ t _ h]
  simpa using hv
theorem Holds16.there (h : Holds16 w b t f) : w.there b 0 16 := fun j hj => by
  rw [Nat.zero_add, h.cell j hj]
  exact ⟨rfl, h.frozen j⟩
end

theorem Below.setRow {B : Nat} {a w : World} (h : Below B a w) (g : Nat) (hg : B ≤ g) (cs : Array Value) : Below B a (w.setRow g cs) :=
  h.trans ⟨rfl, rfl, rfl, by simp, fun k hk => setRow_other w g k cs (by omega)⟩

theorem info55 (f : Nat → Nat) : (Trym.prog.info? 55).map (·.size) = some (bl f).toArray.size := by
  rw [bl_size]; kernel_rfl
theorem info29 (f : Nat → Nat) : (Trym.prog.info? 29).map (·.size) = some (bl f).toArray.size := by
  rw [bl_size]; kernel_rfl

end Go.Proofs.Qxb6614255aMods
