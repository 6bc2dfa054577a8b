namespace Go.Proofs.Qxb6614255aMods.Xt

/-- one byte times x -/
def xb (b : Nat) : Nat := (b * 2 % 256) ^^^ (b / 128 * 27)

def m7 : Nat → Nat
  | 0 => 0
  | n + 1 => 127 + 256 * m7 n
def m1 : Nat → Nat
  | 0 => 0
  | n + 1 => 1 + 256 * m1 n

/-- n lanes at once -/
def xt (n w : Nat) : Nat := ((w &&& m7 n) * 2) ^^^ ((w / 128 &&& m1 n) * 27)

theorem m7_8 : m7 8 = 9187201950435737471 := by decide
theorem m1_8 : m1 8 = 72340172838076673 := by decide

theorem join_mod (x a : Nat) (h : x < 256) : (x + 256 * a) % 256 = x := by omega
theorem join_div (x a : Nat) (h : x < 256) : (x + 256 * a) / 256 = a := by omega
theorem split256 (w : Nat) : w = w % 256 + 256 * (w / 256) := by omega

theorem xor_join (x y a b : Nat) (hx : x < 256) (hy : y < 256) : (x + 256 * a) ^^^ (y + 256 * b) = (x ^^^ y) + 256 * (a ^^^ b) := by
  have h1 : ((x + 256 * a) ^^^ (y + 256 * b)) % 2 ^ 8 = x ^^^ y := by
    rw [Nat.xor_mod_two_pow]
    rw [show (2 : Nat) ^ 8 = 256 from rfl, join_mod x a hx, join_mod y b hy]
  have h2 : ((x + 256 * a) ^^^ (y + 256 * b)) / 2 ^ 8 = a ^^^ b := by
    rw [Nat.xor_div_two_pow]
    rw [show (2 : Nat) ^ 8 = 256 from rfl, join_div x a hx, join_div y b hy]
  rw [show (2 : Nat) ^ 8 = 256 from rfl] at h1 h2
  rw [split256 ((x + 256 * a) ^^^ (y + 256 * b)), h1, h2]

theorem and_join (x y a b : Nat) (hx : x < 256) (hy : y < 256) : (x + 256 * a) &&& (y + 256 * b) = (x &&& y) + 256 * (a &&& b) := by
  have h1 : ((x + 256 * a) &&& (y + 256 * b)) % 2 ^ 8 = x &&& y := by
    rw [Nat.and_mod_two_pow]
    rw [show (2 : Nat) ^ 8 = 256 from rfl, join_mod x a hx, join_mod y b hy]
  have h2 : ((x + 256 * a) &&& (y + 256 * b)) / 2 ^ 8 = a &&& b := by
    rw [Nat.and_div_two_pow]
    rw [show (2 : Nat) ^ 8 = 256 from rfl, join_div x a hx, join_div y b hy]
  rw [show (2 : Nat) ^ 8 = 256 from rfl] at h1 h2
  rw [split256 ((x + 256 * a) &&& (y + 256 * b)), h1, h2]

theorem and127 (x : Nat) : x &&& 127 = x % 128 := Nat.and_two_pow_sub_one_eq_mod x 7
theorem and1 (x : Nat) : x &&& 1 = x % 2 := Nat.and_two_pow_sub_one_eq_mod x 1

theorem xt_succ (n w : Nat) : xt (n + 1) w = xb (w % 256) + 256 * xt n (w / 256) := by
  have e1 : w &&& m7 (n + 1) = (w % 256 % 128) + 256 * (w / 256 &&& m7 n) := by
    rw [← and127]
    have := and_join (w % 256) 127 (w / 256) (m7 n) (by omega) (by omega)
    rw [← split256] at this
    exact this
  have e2 : w / 128 &&& m1 (n + 1) = (w / 128 % 256 % 2) + 256 * (w / 256 / 128 &&& m1 n) := by
    rw [← and1, show w / 256 / 128 = w / 128 / 256 from by omega]
    have := and_join (w / 128 % 256) 1 (w / 128 / 256) (m1 n) (by omega) (by omega)
    rw [← split256] at this
    exact this
  unfold xt xb
  rw [e1, e2]
  rw [show (w % 256 % 128 + 256 * (w / 256 &&& m7 n)) * 2 = (w % 256 * 2 % 256) + 256 * ((w / 256 &&& m7 n) * 2) from by omega]
  rw [show (w / 128 % 256 % 2 + 256 * (w / 256 / 128 &&& m1 n)) * 27 = (w % 256 / 128 * 27) + 256 * ((w / 256 / 128 &&& m1 n) * 27) from by omega]
  exact xor_join _ _ _ _ (by omega) (by omega)

theorem xb_lt_dec : ∀ b : Fin 256, xb b.val < 256 := by decide +kernel
theorem xb_lt (b : Nat) (h : b < 256) : xb b < 256 := xb_lt_dec ⟨b, h⟩
theorem xb_lin_dec : ∀ a : Fin 256, ∀ b : Fin 256, xb (a.val ^^^ b.val) = xb a.val ^^^ xb b.val := by decide +kernel
theorem xb_lin (a b : Nat) (ha : a < 256) (hb : b < 256) : xb (a ^^^ b) = xb a ^^^ xb b := xb_lin_dec ⟨a, ha⟩ ⟨b, hb⟩

theorem xt_zero (w : Nat) : xt 0 w = 0 := by simp [xt, m7, m1]

theorem xt_lt (n : Nat) : ∀ w, xt n w < 256 ^ n := by
  induction n with
  | zero => intro w; rw [xt_zero]; decide
  | succ n ih =>
    intro w
    rw [xt_succ, Nat.pow_succ]
    have h1 := xb_lt (w % 256) (by omega)
    have h2 := ih (w / 256)
    omega

theorem xt_lin (n : Nat) : ∀ a b, xt n (a ^^^ b) = xt n a ^^^ xt n b := by
  induction n with
  | zero => intro a b; simp [xt_zero]
  | succ n ih =>
    intro a b
    have hm : (a ^^^ b) % 256 = a % 256 ^^^ b % 256 := Nat.xor_mod_two_pow (n := 8)
    have hd : (a ^^^ b) / 256 = a / 256 ^^^ b / 256 := Nat.xor_div_two_pow (n := 8)
    rw [xt_succ, xt_succ, xt_succ, hm, hd, xb_lin _ _ (by omega) (by omega), ih, xor_join _ _ _ _ (xb_lt _ (by omega)) (xb_lt _ (by omega))]

/-- k times over -/
def it (f : Nat → Nat) : Nat → Nat → Nat
  | 0, x => x
  | k + 1, x => f (it f k x)

theorem it_xb_lt (k : Nat) : ∀ b, b < 256 → it xb k b < 256 := by
  induction k with
  | zero => intro b h; exact h
  | succ k ih => intro b h; exact xb_lt _ (ih b h)

theorem it_xt_lt (n k : Nat) (w : Nat) (h : w < 256 ^ n) : it (xt n) k w < 256 ^ n := by
  cases k with
  | zero => exact h
  | succ k => exact xt_lt n _

theorem it_succ (n k : Nat) (w : Nat) : it (xt (n + 1)) k w = it xb k (w % 256) + 256 * it (xt n) k (w / 256) := by
  induction k with
  | zero => exact split256 w
  | succ k ih =>
    show xt (n + 1) (it (xt (n + 1)) k w) = _
    have hb := it_xb_lt k (w % 256) (by omega)
    rw [ih, xt_succ, join_mod _ _ hb, join_div _ _ hb]
    rfl

theorem it51_dec : ∀ b : Fin 256, it xb 51 b.val = b.val := by decide +kernel
theorem itk_dec : ∀ b : Fin 256, ∀ k : Fin 50, it xb (k.val + 1) b.val = b.val → b.val = 0 := by decide +kernel

theorem it51 (n : Nat) : ∀ w, w < 256 ^ n → it (xt n) 51 w = w := by
  induction n with
  | zero => intro w h; simp at h; subst h; show xt 0 _ = 0; exact xt_zero _
  | succ n ih =>
    intro w h
    rw [Nat.pow_succ] at h
    rw [it_succ, it51_dec ⟨w % 256, by omega⟩, ih (w / 256) (by omega)]
    exact (split256 w).symm

theorem itk (n k : Nat) (hk : k < 50) : ∀ w, w < 256 ^ n → it (xt n) (k + 1) w = w → w = 0 := by
  induction n with
  | zero => intro w h _; simpa using h
  | succ n ih =>
    intro w h e
    rw [Nat.pow_succ] at h
    rw [it_succ] at e
    have hb := it_xb_lt (k + 1) (w % 256) (by omega)
    have e1 : it xb (k + 1) (w % 256) = w % 256 := by omega
    have e2 : it (xt n) (k + 1) (w / 256) = w / 256 := by omega
    have z1 := itk_dec ⟨w % 256, by omega⟩ ⟨k, hk⟩ e1
    have z2 := ih (w / 256) (by omega) e2
    have z1' : w % 256 = 0 := z1
    omega

/-- a lane -/
def lane (i w : Nat) : Nat := w / 2 ^ (8 * i) % 256

theorem lane_succ (i w : Nat) : lane (i + 1) w = lane i (w / 256) := by
  unfold lane
  rw [Nat.div_div_eq_div_mul, show 2 ^ (8 * (i + 1)) = 256 * 2 ^ (8 * i) from by rw [Nat.mul_add, Nat.pow_add]; omega]

theorem lane_xt (n : Nat) : ∀ i w, i < n → lane i (xt n w) = xb (lane i w) := by
  induction n with
  | zero => intro i w h; omega
  | succ n ih =>
    intro i w h
    have hb := xb_lt (w % 256) (by omega)
    cases i with
    | zero => rw [xt_succ]; unfold lane; simp only [Nat.mul_zero, Nat.pow_zero, Nat.div_one]; exact join_mod _ _ hb
    | succ i => rw [lane_succ, lane_succ, xt_succ, join_div _ _ hb]; exact ih i (w / 256) (by omega)

/-- dividing a byte by x -/
def hv (c : Nat) : Nat := if c % 2 = 0 then c / 2 else ((c ^^^ 27) / 2) ||| 128
theorem hv_dec : ∀ b : Fin 256, hv (xb b.val) = b.val := by decide +kernel
theorem hv_xb (b : Nat) (h : b < 256) : hv (xb b) = b := hv_dec ⟨b, h⟩

end Go.Proofs.Qxb6614255aMods.Xt
