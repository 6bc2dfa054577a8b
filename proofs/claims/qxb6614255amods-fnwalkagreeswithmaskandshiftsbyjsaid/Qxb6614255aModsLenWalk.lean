import Derived.Test.Qxb6614255aModsRows
import Derived.Lib.BitFns
import Derived.WalkKit
import Derived.ProofKit
namespace Go.Proofs.Qxb6614255aMods
open Go.ChangeShapes Go.WideShapes Go.ChangeAt Go.RowKit

set_option maxRecDepth 100000 in
/-- the table's text, as the dump's loader lays it in chunks, is the kit's table -/
theorem fold_tab : ({ data := (([0, 1, 2, 2, 3, 3, 3, 3, 4, 4, 4, 4, 4, 4, 4, 4, 5, 5, 5, 5, 5, 5, 5, 5, 5, 5, 5, 5, 5, 5, 5, 5, 6, 6, 6, 6, 6, 6, 6, 6, 6, 6, 6, 6, 6, 6, 6, 6, 6, 6, 6, 6, 6, 6, 6, 6, 6, 6, 6, 6, 6, 6, 6, 6].append [7, 7, 7, 7, 7, 7, 7, 7, 7, 7, 7, 7, 7, 7, 7, 7, 7, 7, 7, 7, 7, 7, 7, 7, 7, 7, 7, 7, 7, 7, 7, 7, 7, 7, 7, 7, 7, 7, 7, 7, 7, 7, 7, 7, 7, 7, 7, 7, 7, 7, 7, 7, 7, 7, 7, 7, 7, 7, 7, 7, 7, 7, 7, 7]).append ([8, 8, 8, 8, 8, 8, 8, 8, 8, 8, 8, 8, 8, 8, 8, 8, 8, 8, 8, 8, 8, 8, 8, 8, 8, 8, 8, 8, 8, 8, 8, 8, 8, 8, 8, 8, 8, 8, 8, 8, 8, 8, 8, 8, 8, 8, 8, 8, 8, 8, 8, 8, 8, 8, 8, 8, 8, 8, 8, 8, 8, 8, 8, 8].append [8, 8, 8, 8, 8, 8, 8, 8, 8, 8, 8, 8, 8, 8, 8, 8, 8, 8, 8, 8, 8, 8, 8, 8, 8, 8, 8, 8, 8, 8, 8, 8, 8, 8, 8, 8, 8, 8, 8, 8, 8, 8, 8, 8, 8, 8, 8, 8, 8, 8, 8, 8, 8, 8, 8, 8, 8, 8, 8, 8, 8, 8, 8, 8])).toArray } : ByteArray) = Lib.len8tab := by kernel_rfl

theorem wpList_index_tab {P : Program} {ops : Array Oper} {rest : List Oper} {o : Oper} {a : Act} {w : World} {Q : Exit → Act → World → Prop} (hgd : o.guard = none) (t : TypeId) (x : Operand) (tab : ByteArray)
    (ho : o.op = .index t (.const (.string tab)) x) (htab : tab = Lib.len8tab) (k : IntKind) (i : Int) (hx : a.eval x = .int k i) (hu : P.underlying t = some .string) (h0 : 0 ≤ i) (h1 : i ≤ 255)
    (h : wpList P ops Q rest (a.put o.dst (.int .u8 (Lib.len8 i))) w) : wpList P ops Q (o :: rest) a w :=
  wpList_plain hgd fun K hK => by
    subst htab
    have hc : a.eval (.const (.string Lib.len8tab)) = .string Lib.len8tab := rfl
    unfold Oper.wp execOp
    simp only [ho, hx, hc, Sem.run_bind, Lib.run_index_len8tab w t k i hu h0 h1, Sem.run_pure, Result.andThen_ok]
    exact hK _ _ h

theorem len_fin (x K y : Nat) (hy : y < 256) (hk : K ≤ 56) (hb : Lib.bitLen x = K + Lib.bitLen y) : wrap64 ((K : Int) + wrap64 (Lib.len8 (y : Int))) = ((Lib.bitLen x : Nat) : Int) := by
  have l := Lib.bitLen_le8 ⟨y, hy⟩
  have e := Lib.len8_eq ⟨y, hy⟩
  simp only at l e
  rw [e, hb]
  unfold wrap64
  omega
theorem len_fin0 (x : Nat) (hy : x < 256) : wrap64 (wrap64 (Lib.len8 (x : Int))) = ((Lib.bitLen x : Nat) : Int) := by
  have l := Lib.bitLen_le8 ⟨x, hy⟩
  have e := Lib.len8_eq ⟨x, hy⟩
  simp only at l e
  rw [e]
  unfold wrap64
  omega
theorem ret_i64 {a b : Int} (h : a = b) : Ending.returned (.int .i64 a) = .returned (.int .i64 b) := by rw [h]

set_option maxRecDepth 100000 in
set_option maxHeartbeats 4000000 in
theorem len64_calls (x : Nat) (w : World) (hx : x < 18446744073709551616) :
    Calls Trym.prog 57 #[.int .u64 (x : Int)] w fun e w' => e = .returned (.int .i64 ((Lib.bitLen x : Nat) : Int)) ∧ w' = w := by
  by_cases h1 : x < 4294967296
  · have g1 : ¬ (4294967296 : Int) ≤ (x : Int) := by omega
    by_cases h2 : x < 65536
    · have g2 : ¬ (65536 : Int) ≤ (x : Int) := by omega
      by_cases h3 : x < 256
      · have g3 : ¬ (256 : Int) ≤ (x : Int) := by omega
        go_enter Trym.func57, Trym.ntmps57
        go_wp2_with (refine wpList_index_tab rfl 9 _ _ rfl fold_tab .u8 _ rfl Trym.underlying9 (by omega) (by omega) ?_)
        go_ret
        exact ⟨ret_i64 (len_fin0 x h3), rfl⟩
      · have g3 : (256 : Int) ≤ (x : Int) := by omega
        go_enter Trym.func57, Trym.ntmps57
        go_wp2_with (refine wpList_index_tab rfl 9 _ _ rfl fold_tab .u8 _ rfl Trym.underlying9 (by omega) (by omega) ?_)
        go_ret
        refine ⟨ret_i64 ?_, rfl⟩
        clear g1 g2 g3
        rw [show (x : Int) / 256 = ((x / 256 : Nat) : Int) from by omega]
        exact len_fin x 8 (x / 256) (by omega) (by omega) (Lib.bitLen_shift8 x (by omega) hx)
    · have g2 : (65536 : Int) ≤ (x : Int) := by omega
      by_cases h3 : x < 16777216
      · have g3 : ¬ (256 : Int) ≤ (x : Int) / 65536 := by omega
        go_enter Trym.func57, Trym.ntmps57
        go_wp2_with (refine wpList_index_tab rfl 9 _ _ rfl fold_tab .u8 _ rfl Trym.underlying9 (by omega) (by omega) ?_)
        go_ret
        refine ⟨ret_i64 ?_, rfl⟩
        clear g1 g2 g3
        rw [show (x : Int) / 65536 = ((x / 65536 : Nat) : Int) from by omega]
        exact len_fin x 16 (x / 65536) (by omega) (by omega) (Lib.bitLen_shift16 x (by omega) hx)
      · have g3 : (256 : Int) ≤ (x : Int) / 65536 := by omega
        go_enter Trym.func57, Trym.ntmps57
        go_wp2_with (refine wpList_index_tab rfl 9 _ _ rfl fold_tab .u8 _ rfl Trym.underlying9 (by omega) (by omega) ?_)
        go_ret
        refine ⟨ret_i64 ?_, rfl⟩
        clear g1 g2 g3
        rw [show (x : Int) / 65536 / 256 = ((x / 16777216 : Nat) : Int) from by omega]
        exact len_fin x 24 (x / 16777216) (by omega) (by omega) (Lib.bitLen_shift24 x (by omega) hx)
  · have g1 : (4294967296 : Int) ≤ (x : Int) := by omega
    by_cases h2 : x < 281474976710656
    · have g2 : ¬ (65536 : Int) ≤ (x : Int) / 4294967296 := by omega
      by_cases h3 : x < 1099511627776
      · have g3 : ¬ (256 : Int) ≤ (x : Int) / 4294967296 := by omega
        go_enter Trym.func57, Trym.ntmps57
        go_wp2_with (refine wpList_index_tab rfl 9 _ _ rfl fold_tab .u8 _ rfl Trym.underlying9 (by omega) (by omega) ?_)
        go_ret
        refine ⟨ret_i64 ?_, rfl⟩
        clear g1 g2 g3
        rw [show (x : Int) / 4294967296 = ((x / 4294967296 : Nat) : Int) from by omega]
        exact len_fin x 32 (x / 4294967296) (by omega) (by omega) (Lib.bitLen_shift32 x (by omega) hx)
      · have g3 : (256 : Int) ≤ (x : Int) / 4294967296 := by omega
        go_enter Trym.func57, Trym.ntmps57
        go_wp2_with (refine wpList_index_tab rfl 9 _ _ rfl fold_tab .u8 _ rfl Trym.underlying9 (by omega) (by omega) ?_)
        go_ret
        refine ⟨ret_i64 ?_, rfl⟩
        clear g1 g2 g3
        rw [show (x : Int) / 4294967296 / 256 = ((x / 1099511627776 : Nat) : Int) from by omega]
        exact len_fin x 40 (x / 1099511627776) (by omega) (by omega) (Lib.bitLen_shift40 x (by omega) hx)
    · have g2 : (65536 : Int) ≤ (x : Int) / 4294967296 := by omega
      by_cases h3 : x < 72057594037927936
      · have g3 : ¬ (256 : Int) ≤ (x : Int) / 4294967296 / 65536 := by omega
        go_enter Trym.func57, Trym.ntmps57
        go_wp2_with (refine wpList_index_tab rfl 9 _ _ rfl fold_tab .u8 _ rfl Trym.underlying9 (by omega) (by omega) ?_)
        go_ret
        refine ⟨ret_i64 ?_, rfl⟩
        clear g1 g2 g3
        rw [show (x : Int) / 4294967296 / 65536 = ((x / 281474976710656 : Nat) : Int) from by omega]
        exact len_fin x 48 (x / 281474976710656) (by omega) (by omega) (Lib.bitLen_shift48 x (by omega) hx)
      · have g3 : (256 : Int) ≤ (x : Int) / 4294967296 / 65536 := by omega
        go_enter Trym.func57, Trym.ntmps57
        go_wp2_with (refine wpList_index_tab rfl 9 _ _ rfl fold_tab .u8 _ rfl Trym.underlying9 (by omega) (by omega) ?_)
        go_ret
        refine ⟨ret_i64 ?_, rfl⟩
        clear g1 g2 g3
        rw [show (x : Int) / 4294967296 / 65536 / 256 = ((x / 72057594037927936 : Nat) : Int) from by omega]
        exact len_fin x 56 (x / 72057594037927936) (by omega) (by omega) (Lib.bitLen_shift56 x (by omega) hx)

set_option maxHeartbeats 400000 in
theorem len_calls (x : Nat) (w : World) (hx : x < 18446744073709551616) :
    Calls Trym.prog 44 #[.int .u64 (x : Int)] w fun e w' => e = .returned (.int .i64 ((Lib.bitLen x : Nat) : Int)) ∧ w' = w := by
  go_enter Trym.func44, Trym.ntmps44
  go_wp2_with (go_at_call 57; refine (len64_calls x _ hx).mono ?_; rintro e w' ⟨rfl, rfl⟩)
  go_ret
  exact ⟨rfl, rfl⟩

end Go.Proofs.Qxb6614255aMods
