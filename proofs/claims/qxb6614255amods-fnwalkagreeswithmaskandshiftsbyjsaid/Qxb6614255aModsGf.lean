namespace Go.Proofs.Qxb6614255aMods.Gf

/-! Sixteen bytes are a function of the place; what stands from place 16 on is never read. -/
def fx (f g : Nat → Nat) (i : Nat) : Nat := f i ^^^ g i
def zero (_ : Nat) : Nat := 0
/-- times x in GF(2^128), the first byte the most significant -/
def dbl (f : Nat → Nat) (i : Nat) : Nat := if i < 15 then (f i * 2 % 256) ||| (f (i + 1) / 128) else (f 15 * 2 % 256) ^^^ (f 0 / 128 * 135)

def Byte (f : Nat → Nat) : Prop := ∀ i, f i < 256

theorem byte_zero : Byte zero := fun _ => by unfold zero; omega
theorem byte_fx {f g : Nat → Nat} (hf : Byte f) (hg : Byte g) : Byte (fx f g) := fun i => Nat.xor_lt_two_pow (n := 8) (hf i) (hg i)
theorem byte_dbl {f : Nat → Nat} (hf : Byte f) : Byte (dbl f) := fun i => by
  unfold dbl
  have h0 := hf 0
  have h1 := hf (i + 1)
  split
  · exact Nat.or_lt_two_pow (n := 8) (by omega) (by omega)
  · exact Nat.xor_lt_two_pow (n := 8) (by omega) (by omega)

theorem or_xor_dec : ∀ a : Fin 256, ∀ p : Fin 2, (a.val * 2 % 256) ||| p.val = (a.val * 2 % 256) ^^^ p.val := by decide +kernel
theorem or_xor (a p : Nat) (ha : a < 256) (hp : p < 2) : (a * 2 % 256) ||| p = (a * 2 % 256) ^^^ p := or_xor_dec ⟨a, ha⟩ ⟨p, hp⟩
theorem two_lin (a b : Nat) : (a ^^^ b) * 2 % 256 = (a * 2 % 256) ^^^ (b * 2 % 256) := by
  have h : (a ^^^ b) * 2 = (a * 2) ^^^ (b * 2) := by
    have := Nat.shiftLeft_xor_distrib (a := a) (b := b) (i := 1)
    simpa [Nat.shiftLeft_eq] using this
  rw [h]
  exact Nat.xor_mod_two_pow (n := 8)
theorem top_lin (a b : Nat) : (a ^^^ b) / 128 = a / 128 ^^^ b / 128 := Nat.xor_div_two_pow (n := 7)
theorem m135_dec : ∀ p : Fin 2, ∀ q : Fin 2, (p.val ^^^ q.val) * 135 = (p.val * 135) ^^^ (q.val * 135) := by decide
theorem m135 (p q : Nat) (hp : p < 2) (hq : q < 2) : (p ^^^ q) * 135 = (p * 135) ^^^ (q * 135) := m135_dec ⟨p, hp⟩ ⟨q, hq⟩

theorem swap4 (a b c d : Nat) : (a ^^^ b) ^^^ (c ^^^ d) = (a ^^^ c) ^^^ (b ^^^ d) := by
  rw [Nat.xor_assoc, Nat.xor_assoc, ← Nat.xor_assoc b c d, ← Nat.xor_assoc c b d, Nat.xor_comm b c]

theorem dbl_fx {f g : Nat → Nat} (hf : Byte f) (hg : Byte g) : dbl (fx f g) = fx (dbl f) (dbl g) := by
  funext i
  unfold dbl fx
  have a0 := hf 0
  have b0 := hg 0
  have a1 := hf i
  have b1 := hg i
  have a2 := hf (i + 1)
  have b2 := hg (i + 1)
  have x1 : f i ^^^ g i < 256 := Nat.xor_lt_two_pow (n := 8) a1 b1
  have x2 : f (i + 1) ^^^ g (i + 1) < 256 := Nat.xor_lt_two_pow (n := 8) a2 b2
  by_cases h : i < 15
  · simp only [if_pos h]
    rw [or_xor _ _ x1 (by omega), or_xor (f i) (f (i + 1) / 128) a1 (by omega), or_xor (g i) (g (i + 1) / 128) b1 (by omega), two_lin, top_lin, swap4]
  · simp only [if_neg h]
    rw [two_lin, top_lin, m135 _ _ (by omega) (by omega), swap4]

theorem dbl_zero : dbl zero = zero := by
  funext i
  unfold dbl zero
  split <;> rfl

theorem fx_zero (f : Nat → Nat) : fx f zero = f := by funext i; simp [fx, zero]
theorem zero_fx (f : Nat → Nat) : fx zero f = f := by funext i; simp [fx, zero]
theorem fx_comm (f g : Nat → Nat) : fx f g = fx g f := by funext i; exact Nat.xor_comm _ _
theorem fx_assoc (f g h : Nat → Nat) : fx (fx f g) h = fx f (fx g h) := by funext i; exact Nat.xor_assoc _ _ _
theorem fx_self (f : Nat → Nat) : fx f f = zero := by funext i; simp [fx, zero]

/-- k doublings -/
def dbls : Nat → (Nat → Nat) → (Nat → Nat)
  | 0, f => f
  | k + 1, f => dbl (dbls k f)
theorem byte_dbls {f : Nat → Nat} (hf : Byte f) : ∀ k, Byte (dbls k f)
  | 0 => hf
  | k + 1 => byte_dbl (byte_dbls hf k)
theorem dbls_dbl (f : Nat → Nat) : ∀ k, dbls k (dbl f) = dbl (dbls k f)
  | 0 => rfl
  | k + 1 => by show dbl (dbls k (dbl f)) = _; rw [dbls_dbl f k]; rfl

/-- a bit times f -/
def bitf (b : Nat) (f : Nat → Nat) : Nat → Nat := if b % 2 = 1 then f else zero
theorem byte_bitf {f : Nat → Nat} (hf : Byte f) (b : Nat) : Byte (bitf b f) := by unfold bitf; split; exact hf; exact byte_zero

/-- n times f, n of k bits, the highest bit first -/
def hor (f : Nat → Nat) : Nat → Nat → (Nat → Nat)
  | 0, _ => zero
  | k + 1, n => fx (dbl (hor f k (n / 2))) (bitf n f)
theorem byte_hor {f : Nat → Nat} (hf : Byte f) : ∀ k n, Byte (hor f k n)
  | 0, _ => byte_zero
  | k + 1, n => byte_fx (byte_dbl (byte_hor hf k (n / 2))) (byte_bitf hf n)
theorem hor_zero (f : Nat → Nat) : ∀ k, hor f k 0 = zero
  | 0 => rfl
  | k + 1 => by
    show fx (dbl (hor f k (0 / 2))) (bitf 0 f) = zero
    rw [Nat.zero_div, hor_zero f k, dbl_zero, zero_fx]
    rfl
/-- more bits than n has: the same -/
theorem hor_more (f : Nat → Nat) : ∀ k n, n < 2 ^ k → ∀ d, hor f (k + d) n = hor f k n
  | 0, n, h, d => by
    have : n = 0 := by simpa using h
    subst this
    rw [hor_zero]; rfl
  | k + 1, n, h, d => by
    have e : k + 1 + d = (k + d) + 1 := by omega
    rw [e]
    show fx (dbl (hor f (k + d) (n / 2))) _ = fx (dbl (hor f k (n / 2))) _
    rw [hor_more f k (n / 2) (by rw [Nat.pow_succ] at h; omega) d]
/-- n times f: sixty-four bits -/
def mul (n : Nat) (f : Nat → Nat) : Nat → Nat := hor f 64 n
theorem byte_mul {f : Nat → Nat} (hf : Byte f) (n : Nat) : Byte (mul n f) := byte_hor hf 64 n
theorem mul_of_bits (f : Nat → Nat) (k n : Nat) (hk : k ≤ 64) (h : n < 2 ^ k) : hor f k n = mul n f := by
  have := hor_more f k n h (64 - k)
  rw [show k + (64 - k) = 64 from by omega] at this
  exact this.symm
theorem mul_zero (f : Nat → Nat) : mul 0 f = zero := hor_zero f 64

theorem hor_dbl {f : Nat → Nat} (hf : Byte f) : ∀ k n, hor (dbl f) k n = dbl (hor f k n)
  | 0, _ => dbl_zero.symm
  | k + 1, n => by
    show fx (dbl (hor (dbl f) k (n / 2))) (bitf n (dbl f)) = dbl (fx (dbl (hor f k (n / 2))) (bitf n f))
    rw [dbl_fx (byte_dbl (byte_hor hf k _)) (byte_bitf hf n), hor_dbl hf k]
    congr 1
    unfold bitf
    split
    · rfl
    · exact dbl_zero.symm

/-- the lowest bit first: what one round of gfMul does -/
theorem mul_step {f : Nat → Nat} (hf : Byte f) (n : Nat) (hn : n < 2 ^ 64) : mul n f = fx (bitf n f) (mul (n / 2) (dbl f)) := by
  have h1 : hor f 64 n = fx (dbl (hor f 63 (n / 2))) (bitf n f) := rfl
  have h2 : hor f 63 (n / 2) = mul (n / 2) f := mul_of_bits f 63 (n / 2) (by omega) (by omega)
  unfold mul at *
  rw [h1, h2, hor_dbl hf, fx_comm]

/-- one step of times: from the bits above to one bit more -/
theorem mul_double (f : Nat → Nat) (n : Nat) (hn : n < 2 ^ 64) : mul n f = fx (dbl (mul (n / 2) f)) (bitf n f) := by
  have h1 : hor f 64 n = fx (dbl (hor f 63 (n / 2))) (bitf n f) := rfl
  have h2 : hor f 63 (n / 2) = mul (n / 2) f := mul_of_bits f 63 (n / 2) (by omega) (by omega)
  unfold mul at *
  rw [h1, h2]

end Go.Proofs.Qxb6614255aMods.Gf
