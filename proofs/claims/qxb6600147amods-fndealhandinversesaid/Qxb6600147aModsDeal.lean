namespace Go.Proofs.Qxb6600147aMods.Deal

/-! ### the dealt queues, ascending; a rank among those that are not dealt -/
/-- the rank-r queue that is not in l -/
def bq : List Nat → Nat → Nat
  | [], q => q
  | d :: ds, q => if d ≤ q then bq ds (q + 1) else q
/-- l with that queue laid in its place -/
def ins : List Nat → Nat → List Nat
  | [], q => [q]
  | d :: ds, q => if d ≤ q then d :: ins ds (q + 1) else q :: d :: ds
/-- how many of l are below q -/
def cnt : List Nat → Nat → Nat
  | [], _ => 0
  | d :: ds, q => (if d < q then 1 else 0) + cnt ds q
/-- strictly ascending -/
def Asc (l : List Nat) : Prop := l.Pairwise (· < ·)

theorem bq_ge : ∀ (l : List Nat) (r : Nat), r ≤ bq l r
  | [], _ => Nat.le_refl _
  | d :: ds, r => by
    simp only [bq]
    split
    · have := bq_ge ds (r + 1); omega
    · exact Nat.le_refl _
theorem cnt_zero : ∀ (l : List Nat) (q : Nat), (∀ d ∈ l, q ≤ d) → cnt l q = 0
  | [], _, _ => rfl
  | d :: ds, q, h => by
    have h1 := h d (by simp)
    have h2 := cnt_zero ds q (fun x hx => h x (by simp [hx]))
    simp only [cnt, h2]
    rw [if_neg (by omega)]
theorem cnt_le : ∀ (l : List Nat) (q : Nat), cnt l q ≤ l.length
  | [], _ => Nat.le_refl _
  | d :: ds, q => by
    have := cnt_le ds q
    simp only [cnt, List.length_cons]
    split <;> omega
/-- the rank is the queue less those dealt below it -/
theorem bq_cnt : ∀ (l : List Nat) (r : Nat), Asc l → bq l r = r + cnt l (bq l r)
  | [], r, _ => rfl
  | d :: ds, r, h => by
    have hd := List.pairwise_cons.1 h
    simp only [bq]
    split
    · have ih := bq_cnt ds (r + 1) hd.2
      have hg := bq_ge ds (r + 1)
      simp only [cnt]
      rw [if_pos (by omega)]
      omega
    · rw [cnt_zero (d :: ds) r (fun x hx => by
        rcases List.mem_cons.1 hx with rfl | hx
        · omega
        · have := hd.1 x hx; omega)]
      rfl
theorem bq_not_mem : ∀ (l : List Nat) (r : Nat), Asc l → bq l r ∉ l
  | [], r, _ => by simp
  | d :: ds, r, h => by
    have hd := List.pairwise_cons.1 h
    simp only [bq]
    split
    · have ih := bq_not_mem ds (r + 1) hd.2
      have hg := bq_ge ds (r + 1)
      intro hm
      rcases List.mem_cons.1 hm with e | hm
      · omega
      · exact ih hm
    · intro hm
      rcases List.mem_cons.1 hm with e | hm
      · omega
      · have := hd.1 _ hm; omega
theorem mem_ins (x : Nat) : ∀ (l : List Nat) (r : Nat), x ∈ ins l r ↔ x = bq l r ∨ x ∈ l
  | [], r => by simp [ins, bq]
  | d :: ds, r => by
    simp only [ins, bq]
    split
    · rw [List.mem_cons, mem_ins x ds (r + 1), List.mem_cons]
      constructor
      · rintro (h | h | h)
        · exact .inr (.inl h)
        · exact .inl h
        · exact .inr (.inr h)
      · rintro (h | h | h)
        · exact .inr (.inl h)
        · exact .inl h
        · exact .inr (.inr h)
    · simp
theorem length_ins : ∀ (l : List Nat) (r : Nat), (ins l r).length = l.length + 1
  | [], r => rfl
  | d :: ds, r => by
    simp only [ins]
    split
    · simp [length_ins ds (r + 1)]
    · simp
theorem asc_ins : ∀ (l : List Nat) (r : Nat), Asc l → Asc (ins l r)
  | [], r, _ => by simp [Asc, ins]
  | d :: ds, r, h => by
    have hd := List.pairwise_cons.1 h
    simp only [ins]
    split
    · refine List.pairwise_cons.2 ⟨fun x hx => ?_, asc_ins ds (r + 1) hd.2⟩
      rcases (mem_ins x ds (r + 1)).1 hx with e | hx
      · have := bq_ge ds (r + 1); omega
      · exact hd.1 x hx
    · refine List.pairwise_cons.2 ⟨fun x hx => ?_, h⟩
      rcases List.mem_cons.1 hx with e | hx
      · omega
      · have := hd.1 x hx; omega
theorem cnt_ins (x : Nat) : ∀ (l : List Nat) (r : Nat), cnt (ins l r) x = cnt l x + if bq l r < x then 1 else 0
  | [], r => by by_cases h : r < x <;> simp [ins, bq, cnt, h]
  | d :: ds, r => by
    simp only [ins, bq]
    split
    · simp only [cnt, cnt_ins x ds (r + 1)]; omega
    · simp only [cnt]; omega
/-- where the loop of dealHand stops is where the queue goes -/
theorem stop : ∀ (a : Nat) (l : List Nat) (r : Nat), a ≤ l.length → (∀ b, b < a → l.getD b 0 ≤ r + b) → (a = l.length ∨ r + a < l.getD a 0) →
    bq l r = r + a ∧ ins l r = l.take a ++ ((r + a) :: l.drop a)
  | 0, [], r, _, _, _ => by simp [bq, ins]
  | 0, d :: ds, r, _, _, h => by
    have : r < d := by simpa using h
    simp only [bq, ins]
    rw [if_neg (by omega), if_neg (by omega)]
    simp
  | a + 1, [], r, h, _, _ => by simp at h
  | a + 1, d :: ds, r, hl, hb, he => by
    have h0 : d ≤ r := by have := hb 0 (by omega); simpa using this
    have ih := stop a ds (r + 1) (by simpa using hl) (fun b hb' => by
      have := hb (b + 1) (by omega)
      simp only [List.getD_cons_succ] at this
      omega) (by
      rcases he with e | e
      · left; simpa using e
      · right; simp only [List.getD_cons_succ] at e; omega)
    simp only [bq, ins]
    rw [if_pos h0, if_pos h0, ih.1, ih.2]
    exact ⟨by omega, by simp; omega⟩

/-! ### the hand -/
/-- the hash behind k rounds -/
def hs (Q H : Nat) : Nat → Nat
  | 0 => H
  | k + 1 => hs Q H k / (Q - k)
/-- the digit of round k -/
def rk (Q H k : Nat) : Nat := hs Q H k % (Q - k)
/-- the queues dealt in k rounds, ascending -/
def dl (Q H : Nat) : Nat → List Nat
  | 0 => []
  | k + 1 => ins (dl Q H k) (rk Q H k)
/-- the queue of round k -/
def qv (Q H k : Nat) : Nat := bq (dl Q H k) (rk Q H k)

theorem length_dl (Q H : Nat) : ∀ k, (dl Q H k).length = k
  | 0 => rfl
  | k + 1 => by simp only [dl, length_ins, length_dl Q H k]
theorem asc_dl (Q H : Nat) : ∀ k, Asc (dl Q H k)
  | 0 => List.Pairwise.nil
  | k + 1 => asc_ins _ _ (asc_dl Q H k)
theorem mem_dl (Q H x : Nat) : ∀ k, x ∈ dl Q H k ↔ ∃ j, j < k ∧ x = qv Q H j
  | 0 => by simp [dl]
  | k + 1 => by
    simp only [dl]
    rw [mem_ins, mem_dl Q H x k]
    constructor
    · rintro (h | ⟨j, hj, h⟩)
      · exact ⟨k, by omega, h⟩
      · exact ⟨j, by omega, h⟩
    · rintro ⟨j, hj, h⟩
      by_cases e : j = k
      · subst e; exact .inl h
      · exact .inr ⟨j, by omega, h⟩
theorem qv_ne (Q H i j : Nat) (h : j < i) : qv Q H j ≠ qv Q H i := fun e =>
  bq_not_mem (dl Q H i) (rk Q H i) (asc_dl Q H i) ((mem_dl Q H (qv Q H i) i).2 ⟨j, h, e.symm⟩)
theorem rk_lt (Q H k : Nat) (h : k < Q) : rk Q H k < Q - k := Nat.mod_lt _ (by omega)
theorem qv_rank (Q H k : Nat) : qv Q H k = rk Q H k + cnt (dl Q H k) (qv Q H k) := bq_cnt _ _ (asc_dl Q H k)
theorem qv_lt (Q H k : Nat) (h : k < Q) : qv Q H k < Q := by
  have h1 := qv_rank Q H k
  have h2 := rk_lt Q H k h
  have h3 := cnt_le (dl Q H k) (qv Q H k)
  rw [length_dl] at h3
  omega
/-- how many of the first k queues lie below x -/
def less (Q H : Nat) (x : Nat) : Nat → Nat
  | 0 => 0
  | k + 1 => less Q H x k + if qv Q H k < x then 1 else 0
theorem less_cnt (Q H x : Nat) : ∀ k, less Q H x k = cnt (dl Q H k) x
  | 0 => rfl
  | k + 1 => by
    simp only [less, dl]
    rw [cnt_ins, less_cnt Q H x k]
    rfl
theorem less_le (Q H x : Nat) (k : Nat) : less Q H x k ≤ k := by
  rw [less_cnt]
  have := cnt_le (dl Q H k) x
  rw [length_dl] at this
  exact this
theorem digit (Q H k : Nat) : qv Q H k = rk Q H k + less Q H (qv Q H k) k := by rw [less_cnt]; exact qv_rank Q H k

/-! ### the hand read back -/
def pr (Q : Nat) : Nat → Nat
  | 0 => 1
  | k + 1 => pr Q k * (Q - k)
def en (Q H : Nat) : Nat → Nat
  | 0 => 0
  | k + 1 => en Q H k + rk Q H k * pr Q k
theorem en_hs (Q H : Nat) : ∀ k, H = en Q H k + hs Q H k * pr Q k
  | 0 => by simp [en, hs, pr]
  | k + 1 => by
    have ih := en_hs Q H k
    simp only [en, hs, pr, rk]
    have e := Nat.div_add_mod (hs Q H k) (Q - k)
    have h2 : hs Q H k * pr Q k = (hs Q H k % (Q - k)) * pr Q k + hs Q H k / (Q - k) * (pr Q k * (Q - k)) := by
      conv => lhs; rw [← e]
      rw [Nat.add_mul, Nat.add_comm, Nat.mul_comm (Q - k) (hs Q H k / (Q - k)), Nat.mul_assoc, Nat.mul_comm (Q - k) (pr Q k)]
    omega
theorem pr_pos (Q : Nat) : ∀ k, k ≤ Q → 0 < pr Q k
  | 0, _ => by simp [pr]
  | k + 1, h => Nat.mul_pos (pr_pos Q k (by omega)) (by omega)
theorem en_lt (Q H : Nat) : ∀ k, k ≤ Q → en Q H k < pr Q k
  | 0, _ => by simp [en, pr]
  | k + 1, h => by
    have ih := en_lt Q H k (by omega)
    have hr := rk_lt Q H k (by omega)
    simp only [en, pr]
    have h1 : (rk Q H k + 1) * pr Q k ≤ (Q - k) * pr Q k := Nat.mul_le_mul_right _ hr
    rw [Nat.add_mul, Nat.one_mul, Nat.mul_comm (Q - k)] at h1
    omega
theorem en_eq (Q H k : Nat) (h : k ≤ Q) : en Q H k = H % pr Q k := by
  have h1 := en_hs Q H k
  have h2 := en_lt Q H k h
  conv => rhs; rw [h1]
  rw [Nat.add_mul_mod_self_right, Nat.mod_eq_of_lt h2]
theorem en_all (Q H k : Nat) (h : k ≤ Q) (hp : H < pr Q k) : en Q H k = H := by rw [en_eq Q H k h, Nat.mod_eq_of_lt hp]
theorem en_le (Q H k : Nat) : en Q H k ≤ H := by
  have := en_hs Q H k
  omega
theorem hs_le (Q H : Nat) : ∀ k, hs Q H k ≤ H
  | 0 => Nat.le_refl _
  | k + 1 => Nat.le_trans (Nat.div_le_self _ _) (hs_le Q H k)

end Go.Proofs.Qxb6600147aMods.Deal
