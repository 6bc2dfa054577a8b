import Derived.Test.Qxb6614255aModsBlk
import Derived.Test.Qxb6614255aModsGf
import Derived.OpenShut
namespace Go.Proofs.Qxb6614255aMods
open Go.ChangeShapes Go.WideShapes Go.ChangeAt Go.RowKit

/-- sixteen bytes that came in, as a function of the place -/
theorem open_blk {H : Type} {enc : TypeId × Value → H} {W : World} {r : Reach} {base : Nat} {v : Value} {d : DataW H} {p : List MemPlace}
    (hv : Value.okWide Trym.prog W r base 29 v) (h : DataW.Trod enc Trym.prog W 0 (fun _ => true) true 29 v d p) : ∃ f, v = .agg (bl f).toArray ∧ Gf.Byte f := by
  obtain ⟨cs, rfl, hsz⟩ : ∃ cs, v = .agg cs ∧ cs.size = Trym.prog.cellsOf 29 := by
    simp only [Value.okWide, Trym.underlying29] at hv
    obtain ⟨cs, h1, h2, _⟩ := hv
    exact ⟨cs, h1, h2⟩
  obtain ⟨fuel, hf⟩ := h
  have c29 : Trym.prog.cellsOf 29 = 16 := by kernel_rfl
  have c5 : Trym.prog.cellsOf 5 = 1 := by kernel_rfl
  obtain ⟨xs, m, _, _, hl, hn, hx⟩ := DataW.trod_array Trym.underlying29 hf
  have hcs : (Value.agg cs).cells.toList = cs.toList := rfl
  rw [hcs, c29] at hl
  have hcell : ∀ i, i < 16 → ∃ n : Int, cs.toList[i]? = some (.int .u8 n) ∧ (Lit.int .u8 n).wf = true := fun i hi => by
    have h1 := hx i hi
    rw [c5, hcs, Nat.mul_one, List.getElem?_eq_getElem (by omega)] at h1
    obtain ⟨n, e, _, wf⟩ := DataW.trod_int Trym.underlying5 h1
    refine ⟨n, ?_, wf⟩
    have e2 : ((cs.toList.drop i).take 1)[0]? = some (.int .u8 n) := by rw [e]; rfl
    rw [List.getElem?_take_of_lt (by omega), List.getElem?_drop] at e2
    simpa using e2
  refine ⟨fun i => match cs.toList[i]? with | some (.int _ n) => n.toNat % 256 | _ => 0, ?_, ?_⟩
  · have e : cs.toList = bl (fun i => match cs.toList[i]? with | some (.int _ n) => n.toNat % 256 | _ => 0) := by
      refine List.ext_getElem? fun i => ?_
      by_cases hi : i < 16
      · obtain ⟨n, e, wf⟩ := hcell i hi
        have b := bounds_u8 wf
        rw [bl_get _ i hi, e]
        simp only [Option.some.injEq, Value.int.injEq, true_and]
        omega
      · rw [List.getElem?_eq_none (by omega), List.getElem?_eq_none (by rw [bl_len]; omega)]
    rw [← e]
  · intro i
    show (match cs.toList[i]? with | some (.int _ n) => n.toNat % 256 | _ => 0) < 256
    split
    · exact Nat.mod_lt _ (by omega)
    · omega

end Go.Proofs.Qxb6614255aMods
