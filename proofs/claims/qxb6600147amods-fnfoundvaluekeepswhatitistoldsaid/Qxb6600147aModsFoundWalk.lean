import Derived.Test.Qxb6600147aModsRows
import Derived.WalkKit
import Derived.ProofKit
import Derived.WalkLawsBesides
import Derived.WalkSpells
import Derived.Lib.Strings
namespace Go.Proofs.Qxb6600147aMods
open Go.ChangeShapes Go.WideShapes Go.ChangeAt Go.RowKit

set_option maxHeartbeats 1000000 in
theorem hasPrefix_calls (s p : ByteArray) (w : World) (hs : s.size ≤ 1048576) (hp : p.size ≤ s.size) (b : Bool) (hb : ((s.extract 0 p.size).toList == p.toList) = b) :
    Calls Trym.prog 16 #[.string s, .string p] w fun e w' => e = .returned (.bool b) ∧ w' = w := by
  have h1 : (p.size : Int) ≤ (s.size : Int) := by omega
  have h2 : (s.size : Int) ≤ 1048576 := by omega
  go_enter Trym.func16, Trym.ntmps16
  go_wp2_with fail
  go_ret
  exact ⟨rfl, rfl⟩

set_option maxHeartbeats 1000000 in
theorem hasPrefix_short (s p : ByteArray) (w : World) (hp : s.size < p.size) :
    Calls Trym.prog 16 #[.string s, .string p] w fun e w' => e = .returned (.bool false) ∧ w' = w := by
  have h1 : decide ((p.size : Int) ≤ (s.size : Int)) = false := by simp; omega
  go_enter Trym.func16, Trym.ntmps16
  go_wp2_with fail
  go_ret
  exact ⟨rfl, rfl⟩

set_option maxHeartbeats 1000000 in
theorem cutPrefix_no (s p : ByteArray) (w : World) (h : ∀ w, Calls Trym.prog 16 #[.string s, .string p] w fun e w' => e = .returned (.bool false) ∧ w' = w) :
    Calls Trym.prog 14 #[.string s, .string p] w fun e w' => e = .returned (.tuple #[.string s, .bool false]) ∧ w' = w := by
  have H : Hid (∀ w, Calls Trym.prog 16 #[.string s, .string p] w fun e w' => e = .returned (.bool false) ∧ w' = w) := h
  clear h
  go_enter Trym.func14, Trym.ntmps14
  go_wp2_with (first
    | (go_at_call 15; go_in)
    | (go_at_call 16; refine (H.out _).mono ?_; rintro e w' ⟨rfl, rfl⟩))
  go_ret2
  exact ⟨rfl, rfl⟩

set_option maxHeartbeats 1000000 in
theorem cutPrefix_yes (s p : ByteArray) (w : World) (hs : s.size ≤ 1048576) (hp : p.size ≤ s.size) (h : ∀ w, Calls Trym.prog 16 #[.string s, .string p] w fun e w' => e = .returned (.bool true) ∧ w' = w) :
    Calls Trym.prog 14 #[.string s, .string p] w fun e w' => e = .returned (.tuple #[.string (s.extract p.size s.size), .bool true]) ∧ w' = w := by
  have h1 : (p.size : Int) ≤ (s.size : Int) := by omega
  have h2 : (s.size : Int) ≤ 1048576 := by omega
  have H : Hid (∀ w, Calls Trym.prog 16 #[.string s, .string p] w fun e w' => e = .returned (.bool true) ∧ w' = w) := h
  clear h
  go_enter Trym.func14, Trym.ntmps14
  go_wp2_with (first
    | (go_at_call 15; go_in)
    | (go_at_call 16; refine (H.out _).mono ?_; rintro e w' ⟨rfl, rfl⟩))
  go_ret2
  exact ⟨rfl, rfl⟩

def numB : ByteArray := ⟨#[110, 117, 109, 98, 101, 114, 32]⟩
def theB : ByteArray := ⟨#[116, 104, 101, 32, 110, 117, 109, 98, 101, 114, 32]⟩

set_option maxHeartbeats 1000000 in
theorem found_num (s : ByteArray) (w : World) (hs : s.size ≤ 1048576) (hp : 7 ≤ s.size) (hb : ((s.extract 0 7).toList == numB.toList) = true) :
    Calls Trym.prog 13 #[.string s] w fun e w' => e = .returned (.string (theB ++ s.extract 7 s.size)) ∧ w' = w := by
  have hc := fun w => cutPrefix_yes s numB w hs hp (fun w => hasPrefix_calls s numB w hs hp true hb)
  have HC : Hid (∀ w, Calls Trym.prog 14 #[.string s, .string numB] w fun e w' => e = .returned (.tuple #[.string (s.extract 7 s.size), .bool true]) ∧ w' = w) := hc
  clear hc hb
  go_enter Trym.func13, Trym.ntmps13
  go_wp2_with fail
  refine (HC.out _).mono ?_
  rintro e w' ⟨rfl, rfl⟩
  go_wp2_with fail
  go_ret
  exact ⟨rfl, rfl⟩

set_option maxHeartbeats 1000000 in
theorem found_same (s : ByteArray) (w : World) (hc : ∀ w, Calls Trym.prog 14 #[.string s, .string numB] w fun e w' => e = .returned (.tuple #[.string s, .bool false]) ∧ w' = w)
    (h1 : (s.toList == [115, 116, 114, 105, 110, 103]) = false) (h2 : (s.toList == [110, 117, 109, 98, 101, 114]) = false) (h3 : (s.toList == [98, 111, 111, 108]) = false) (h4 : (s.toList == [111, 98, 106, 101, 99, 116]) = false) (h5 : (s.toList == [97, 114, 114, 97, 121]) = false) :
    Calls Trym.prog 13 #[.string s] w fun e w' => e = .returned (.string s) ∧ w' = w := by
  have HC : Hid (∀ w, Calls Trym.prog 14 #[.string s, .string numB] w fun e w' => e = .returned (.tuple #[.string s, .bool false]) ∧ w' = w) := hc
  clear hc
  go_enter Trym.func13, Trym.ntmps13
  go_wp2_with fail
  refine (HC.out _).mono ?_
  rintro e w' ⟨rfl, rfl⟩
  go_wp2_with fail
  go_ret
  exact ⟨rfl, rfl⟩

set_option maxHeartbeats 1000000 in
theorem zzfound (s out : ByteArray) (w : World) (h : ∀ w, Calls Trym.prog 13 #[.string s] w fun e w' => e = .returned (.string out) ∧ w' = w) :
    Calls Trym.prog 10 #[.string s] w fun e w' => e = .returned (.string out) ∧ w' = w := by
  have H : Hid (∀ w, Calls Trym.prog 13 #[.string s] w fun e w' => e = .returned (.string out) ∧ w' = w) := h
  clear h
  go_enter Trym.func10, Trym.ntmps10
  go_wp2_with (go_at_call 13; refine (H.out _).mono ?_; rintro e w' ⟨rfl, rfl⟩)
  go_ret
  exact ⟨rfl, rfl⟩

set_option maxHeartbeats 1000000 in
theorem bytes_yes (s : ByteArray) (w : World) (hs : s.size ≤ 1048576) :
    Calls Trym.prog 11 #[.string s] w fun e w' => e = .returned (.bool true) ∧ w' = w := by
  have h2 : (s.size : Int) ≤ 1048576 := by omega
  go_enter Trym.func11, Trym.ntmps11
  go_wp2_with fail
  go_ret
  exact ⟨rfl, rfl⟩
set_option maxHeartbeats 1000000 in
theorem bytes_no (s : ByteArray) (w : World) (hs : 1048576 < s.size) :
    Calls Trym.prog 11 #[.string s] w fun e w' => e = .returned (.bool false) ∧ w' = w := by
  have h2 : (1048576 : Int) < (s.size : Int) := by omega
  go_enter Trym.func11, Trym.ntmps11
  go_wp2_with fail
  go_ret
  exact ⟨rfl, rfl⟩

set_option maxHeartbeats 1000000 in
theorem law_big (s : ByteArray) (w : World) (hs : 1048576 < s.size) :
    Calls Trym.prog 7 #[.string s] w fun e w' => e = .returned (.bool true) ∧ Grown w w' := by
  go_enter Trym.func7, Trym.ntmps7
  go_wp2_with (go_at_call 11; refine (bytes_no s _ hs).mono ?_; rintro e w' ⟨rfl, rfl⟩)
  go_ret
  exact ⟨rfl, Grown.refl _⟩

set_option maxHeartbeats 1000000 in
theorem law_any (s out : ByteArray) (d : Nat) (w : World) (hs : s.size ≤ 1048576) (h : ∀ w, Calls Trym.prog 10 #[.string s] w fun e w' => e = .returned (.string out) ∧ w' = w)
    (h1 : d + s.size ≤ out.size) (h2 : out.size ≤ s.size + 5) (hno : ∀ k, k < d → ((out.extract k (k + s.size)).toList == s.toList) = false) (hyes : ((out.extract d (d + s.size)).toList == s.toList) = true) :
    Calls Trym.prog 7 #[.string s] w fun e w' => e = .returned (.bool true) ∧ Grown w w' := by
  have H : Hid (∀ w, Calls Trym.prog 10 #[.string s] w fun e w' => e = .returned (.string out) ∧ w' = w) := h
  have HN : Hid (∀ k, k < d → ((out.extract k (k + s.size)).toList == s.toList) = false) := hno
  have HY : Hid (((out.extract d (d + s.size)).toList == s.toList) = true) := hyes
  clear h hno hyes
  have i1 : (s.size : Int) ≤ 1048576 := by omega
  have i2 : (out.size : Int) ≤ (s.size : Int) + 5 := by omega
  have i3 : decide ((out.size : Int) < (s.size : Int)) = false := by simp; omega
  have i4 : decide (5 < (out.size : Int) - (s.size : Int)) = false := by simp; omega
  have i5 : (s.size : Int) ≤ (out.size : Int) := by omega
  go_enter Trym.func7, Trym.ntmps7
  go_wp2_with (first
    | (go_at_call 11; refine (bytes_yes s _ hs).mono ?_; rintro e w' ⟨rfl, rfl⟩)
    | (go_at_call 10; refine (H.out _).mono ?_; rintro e w' ⟨rfl, rfl⟩))
  go_loop [4] (fun t => ∃ k : Nat, k ≤ d ∧ t = .int .i64 (k : Int)) (fun t => d - (intOf t).toNat)
  case atStart => exact ⟨0, by omega, rfl⟩
  case round =>
    obtain ⟨k, hk, rfl⟩ := hrel
    have k0 : (0 : Int) ≤ (k : Int) := by omega
    have k1 : (k : Int) ≤ (out.size : Int) - (s.size : Int) := by omega
    have k2 : (k : Int) + (s.size : Int) ≤ (out.size : Int) := by omega
    by_cases hlt : k < d
    · have ht := HN.out k hlt
      go_wp2_with fail
      go_round
      case rel => exact ⟨k + 1, by omega, by go_num⟩
      case measure => simp [intOf]; omega
    · obtain rfl : k = d := by omega
      have ht := HY.out
      go_wp2_with fail
      go_ret
      exact ⟨rfl, Grown.refl _⟩

/-! ### the plain law on bytes -/
theorem num_list (s : ByteArray) (hb : ((s.extract 0 7).toList == numB.toList) = true) : s.data.toList = [110, 117, 109, 98, 101, 114, 32] ++ s.data.toList.drop 7 := by
  have h := beq_iff_eq.1 hb
  rw [Lib.extract_toList, Lib.toList_data] at h
  have h' : s.data.toList.take 7 = [110, 117, 109, 98, 101, 114, 32] := by simpa [numB] using h
  conv => lhs; rw [← List.take_append_drop 7 s.data.toList, h']
theorem out_list (s : ByteArray) (hb : ((s.extract 0 7).toList == numB.toList) = true) : (theB ++ s.extract 7 s.size).data.toList = [116, 104, 101, 32] ++ s.data.toList := by
  have h1 := num_list s hb
  have h2 : (s.extract 7 s.size).data.toList = s.data.toList.drop 7 := by
    rw [Lib.extract_data, Lib.size_eq, List.take_of_length_le (by simp)]
  rw [ByteArray.data_append, Array.toList_append, h2]
  conv => rhs; rw [h1]
  rfl
theorem out_size (s : ByteArray) (hb : ((s.extract 0 7).toList == numB.toList) = true) : (theB ++ s.extract 7 s.size).size = s.size + 4 := by
  rw [Lib.size_eq, out_list s hb, Lib.size_eq]
  simp
theorem out_yes (s : ByteArray) (hb : ((s.extract 0 7).toList == numB.toList) = true) : (((theB ++ s.extract 7 s.size).extract 4 (4 + s.size)).toList == s.toList) = true := by
  rw [Lib.extract_toList, out_list s hb, Lib.toList_data, beq_iff_eq, Nat.add_sub_cancel_left]
  exact List.take_of_length_le (by rw [Lib.size_eq]; exact Nat.le_refl _)
theorem out_no (s : ByteArray) (hb : ((s.extract 0 7).toList == numB.toList) = true) (k : Nat) (hk : k < 4) : (((theB ++ s.extract 7 s.size).extract k (k + s.size)).toList == s.toList) = false := by
  have h1 := num_list s hb
  rw [Lib.extract_toList, out_list s hb, Lib.toList_data, beq_eq_false_iff_ne, Nat.add_sub_cancel_left, Lib.size_eq]
  generalize s.data.toList = l at *
  intro e
  have hl : l[0]? = some 110 := by rw [h1]; rfl
  have hpos : 0 < l.length := by
    cases l with
    | nil => simp at hl
    | cons _ _ => simp
  have e2 : ((([116, 104, 101, 32] ++ l).drop k).take l.length)[0]? = some 110 := by rw [e]; exact hl
  rw [List.getElem?_take_of_lt hpos, List.getElem?_drop, Nat.add_zero] at e2
  match k, hk with
  | 0, _ => simp at e2
  | 1, _ => simp at e2
  | 2, _ => simp at e2
  | 3, _ => simp at e2

theorem same_yes (s : ByteArray) : ((s.extract 0 (0 + s.size)).toList == s.toList) = true := by
  rw [Lib.extract_toList, Lib.toList_data, beq_iff_eq, Nat.zero_add, Nat.sub_zero]
  exact List.take_of_length_le (by rw [Lib.size_eq]; exact Nat.le_refl _)


set_option maxHeartbeats 1000000 in
theorem found_string (w : World) : Calls Trym.prog 13 #[.string ⟨#[115, 116, 114, 105, 110, 103]⟩] w fun e w' => e = .returned (.string ⟨#[97, 32, 115, 116, 114, 105, 110, 103]⟩) ∧ w' = w := by
  have HC : Hid (∀ w, Calls Trym.prog 14 #[.string ⟨#[115, 116, 114, 105, 110, 103]⟩, .string numB] w fun e w' => e = .returned (.tuple #[.string ⟨#[115, 116, 114, 105, 110, 103]⟩, .bool false]) ∧ w' = w) := fun w => cutPrefix_no _ numB w (fun w => hasPrefix_short _ numB w (by decide))
  go_enter Trym.func13, Trym.ntmps13
  go_wp2_with fail
  refine (HC.out _).mono ?_
  rintro e w' ⟨rfl, rfl⟩
  go_wp2_with fail
  go_ret
  exact ⟨rfl, rfl⟩
theorem law_string (w : World) : Calls Trym.prog 7 #[.string ⟨#[115, 116, 114, 105, 110, 103]⟩] w fun e w' => e = .returned (.bool true) ∧ Grown w w' :=
  law_any ⟨#[115, 116, 114, 105, 110, 103]⟩ ⟨#[97, 32, 115, 116, 114, 105, 110, 103]⟩ 2 w (by decide) (fun w => zzfound _ _ w found_string) (by decide) (by decide) (by decide +kernel) (by decide +kernel)

set_option maxHeartbeats 1000000 in
theorem found_number (w : World) : Calls Trym.prog 13 #[.string ⟨#[110, 117, 109, 98, 101, 114]⟩] w fun e w' => e = .returned (.string ⟨#[97, 32, 110, 117, 109, 98, 101, 114]⟩) ∧ w' = w := by
  have HC : Hid (∀ w, Calls Trym.prog 14 #[.string ⟨#[110, 117, 109, 98, 101, 114]⟩, .string numB] w fun e w' => e = .returned (.tuple #[.string ⟨#[110, 117, 109, 98, 101, 114]⟩, .bool false]) ∧ w' = w) := fun w => cutPrefix_no _ numB w (fun w => hasPrefix_short _ numB w (by decide))
  go_enter Trym.func13, Trym.ntmps13
  go_wp2_with fail
  refine (HC.out _).mono ?_
  rintro e w' ⟨rfl, rfl⟩
  go_wp2_with fail
  go_ret
  exact ⟨rfl, rfl⟩
theorem law_number (w : World) : Calls Trym.prog 7 #[.string ⟨#[110, 117, 109, 98, 101, 114]⟩] w fun e w' => e = .returned (.bool true) ∧ Grown w w' :=
  law_any ⟨#[110, 117, 109, 98, 101, 114]⟩ ⟨#[97, 32, 110, 117, 109, 98, 101, 114]⟩ 2 w (by decide) (fun w => zzfound _ _ w found_number) (by decide) (by decide) (by decide +kernel) (by decide +kernel)

set_option maxHeartbeats 1000000 in
theorem found_bool (w : World) : Calls Trym.prog 13 #[.string ⟨#[98, 111, 111, 108]⟩] w fun e w' => e = .returned (.string ⟨#[97, 32, 98, 111, 111, 108, 101, 97, 110]⟩) ∧ w' = w := by
  have HC : Hid (∀ w, Calls Trym.prog 14 #[.string ⟨#[98, 111, 111, 108]⟩, .string numB] w fun e w' => e = .returned (.tuple #[.string ⟨#[98, 111, 111, 108]⟩, .bool false]) ∧ w' = w) := fun w => cutPrefix_no _ numB w (fun w => hasPrefix_short _ numB w (by decide))
  go_enter Trym.func13, Trym.ntmps13
  go_wp2_with fail
  refine (HC.out _).mono ?_
  rintro e w' ⟨rfl, rfl⟩
  go_wp2_with fail
  go_ret
  exact ⟨rfl, rfl⟩
theorem law_bool (w : World) : Calls Trym.prog 7 #[.string ⟨#[98, 111, 111, 108]⟩] w fun e w' => e = .returned (.bool true) ∧ Grown w w' :=
  law_any ⟨#[98, 111, 111, 108]⟩ ⟨#[97, 32, 98, 111, 111, 108, 101, 97, 110]⟩ 2 w (by decide) (fun w => zzfound _ _ w found_bool) (by decide) (by decide) (by decide +kernel) (by decide +kernel)

set_option maxHeartbeats 1000000 in
theorem found_object (w : World) : Calls Trym.prog 13 #[.string ⟨#[111, 98, 106, 101, 99, 116]⟩] w fun e w' => e = .returned (.string ⟨#[97, 110, 32, 111, 98, 106, 101, 99, 116]⟩) ∧ w' = w := by
  have HC : Hid (∀ w, Calls Trym.prog 14 #[.string ⟨#[111, 98, 106, 101, 99, 116]⟩, .string numB] w fun e w' => e = .returned (.tuple #[.string ⟨#[111, 98, 106, 101, 99, 116]⟩, .bool false]) ∧ w' = w) := fun w => cutPrefix_no _ numB w (fun w => hasPrefix_short _ numB w (by decide))
  go_enter Trym.func13, Trym.ntmps13
  go_wp2_with fail
  refine (HC.out _).mono ?_
  rintro e w' ⟨rfl, rfl⟩
  go_wp2_with fail
  go_ret
  exact ⟨rfl, rfl⟩
theorem law_object (w : World) : Calls Trym.prog 7 #[.string ⟨#[111, 98, 106, 101, 99, 116]⟩] w fun e w' => e = .returned (.bool true) ∧ Grown w w' :=
  law_any ⟨#[111, 98, 106, 101, 99, 116]⟩ ⟨#[97, 110, 32, 111, 98, 106, 101, 99, 116]⟩ 3 w (by decide) (fun w => zzfound _ _ w found_object) (by decide) (by decide) (by decide +kernel) (by decide +kernel)

set_option maxHeartbeats 1000000 in
theorem found_array (w : World) : Calls Trym.prog 13 #[.string ⟨#[97, 114, 114, 97, 121]⟩] w fun e w' => e = .returned (.string ⟨#[97, 110, 32, 97, 114, 114, 97, 121]⟩) ∧ w' = w := by
  have HC : Hid (∀ w, Calls Trym.prog 14 #[.string ⟨#[97, 114, 114, 97, 121]⟩, .string numB] w fun e w' => e = .returned (.tuple #[.string ⟨#[97, 114, 114, 97, 121]⟩, .bool false]) ∧ w' = w) := fun w => cutPrefix_no _ numB w (fun w => hasPrefix_short _ numB w (by decide))
  go_enter Trym.func13, Trym.ntmps13
  go_wp2_with fail
  refine (HC.out _).mono ?_
  rintro e w' ⟨rfl, rfl⟩
  go_wp2_with fail
  go_ret
  exact ⟨rfl, rfl⟩
theorem law_array (w : World) : Calls Trym.prog 7 #[.string ⟨#[97, 114, 114, 97, 121]⟩] w fun e w' => e = .returned (.bool true) ∧ Grown w w' :=
  law_any ⟨#[97, 114, 114, 97, 121]⟩ ⟨#[97, 110, 32, 97, 114, 114, 97, 121]⟩ 3 w (by decide) (fun w => zzfound _ _ w found_array) (by decide) (by decide) (by decide +kernel) (by decide +kernel)

theorem mk_list (s : ByteArray) (l : List UInt8) (h : s.toList = l) : s = ⟨l.toArray⟩ := by
  subst h
  rw [Lib.toList_data]

theorem law_walk (s : ByteArray) (w : World) : Calls Trym.prog 7 #[.string s] w fun e w' => e = .returned (.bool true) ∧ Grown w w' := by
  by_cases hs : s.size ≤ 1048576
  case neg => exact law_big s w (by omega)
  by_cases hp : 7 ≤ s.size ∧ ((s.extract 0 7).toList == numB.toList) = true
  · have hsz := out_size s hp.2
    exact law_any s _ 4 w hs (fun w => zzfound _ _ w (fun w => found_num s w hs hp.1 hp.2)) (by omega) (by omega) (fun k hk => out_no s hp.2 k hk) (out_yes s hp.2)
  have hc : ∀ w, Calls Trym.prog 14 #[.string s, .string numB] w fun e w' => e = .returned (.tuple #[.string s, .bool false]) ∧ w' = w := fun w => by
    refine cutPrefix_no s numB w fun w => ?_
    by_cases h7 : 7 ≤ s.size
    · refine hasPrefix_calls s numB w hs h7 false ?_
      cases hb : ((s.extract 0 numB.size).toList == numB.toList) with
      | false => rfl
      | true => exact absurd ⟨h7, hb⟩ hp
    · exact hasPrefix_short s numB w (by show s.size < 7; omega)
  by_cases h1 : s.toList = [115, 116, 114, 105, 110, 103]
  · rw [mk_list s _ h1]; exact law_string w
  by_cases h2 : s.toList = [110, 117, 109, 98, 101, 114]
  · rw [mk_list s _ h2]; exact law_number w
  by_cases h3 : s.toList = [98, 111, 111, 108]
  · rw [mk_list s _ h3]; exact law_bool w
  by_cases h4 : s.toList = [111, 98, 106, 101, 99, 116]
  · rw [mk_list s _ h4]; exact law_object w
  by_cases h5 : s.toList = [97, 114, 114, 97, 121]
  · rw [mk_list s _ h5]; exact law_array w
  exact law_any s s 0 w hs (fun w => zzfound _ _ w (fun w => found_same s w hc (by simpa using h1) (by simpa using h2) (by simpa using h3) (by simpa using h4) (by simpa using h5))) (by omega) (by omega) (fun k hk => by omega) (same_yes s)

end Go.Proofs.Qxb6600147aMods
