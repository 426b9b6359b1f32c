/- The data as one number, and its bits. Plain numbers. -/
namespace Go.Proofs.YtejeloeaklpinaaDoor

/-- The bytes as one number, the first byte the lowest. -/
def dnum (d : Nat → Nat) : Nat → Nat
  | 0 => 0
  | n + 1 => dnum d n + d n * 256 ^ n
/-- n bits of D from place p on. -/
def bv (D p n : Nat) : Nat := D / 2 ^ p % 2 ^ n

theorem dnum_lt (d : Nat → Nat) (h : ∀ k, d k < 256) : ∀ n, dnum d n < 256 ^ n
  | 0 => by simp [dnum]
  | n + 1 => by
    have ih := dnum_lt d h n
    have hd := h n
    simp only [dnum, Nat.pow_succ]
    have : d n * 256 ^ n ≤ 255 * 256 ^ n := Nat.mul_le_mul_right _ (by omega)
    omega
theorem dnum_byte (d : Nat → Nat) (h : ∀ k, d k < 256) : ∀ n pos, pos < n → dnum d n / 256 ^ pos % 256 = d pos
  | 0, _, hp => by omega
  | n + 1, pos, hp => by
    simp only [dnum]
    by_cases hpn : pos = n
    · subst hpn
      rw [Nat.add_mul_div_right _ _ (Nat.pow_pos (by omega)), Nat.div_eq_of_lt (dnum_lt d h pos)]
      have := h pos
      omega
    · have e : 256 ^ n = 256 ^ (n - pos - 1) * 256 * 256 ^ pos := by
        rw [← Nat.pow_succ, ← Nat.pow_add]; congr 1; omega
      rw [e, ← Nat.mul_assoc, Nat.add_mul_div_right _ _ (Nat.pow_pos (by omega)), ← Nat.mul_assoc, Nat.add_mul_mod_self_right]
      exact dnum_byte d h n pos (by omega)
theorem pow256 (n : Nat) : 256 ^ n = 2 ^ (8 * n) := by
  rw [Nat.pow_mul]

theorem bv_lt (D p n : Nat) : bv D p n < 2 ^ n := Nat.mod_lt _ (Nat.two_pow_pos n)
theorem bv_zero (D p : Nat) : bv D p 0 = 0 := by simp [bv, Nat.mod_one]
theorem bv_more (d : Nat → Nat) (h : ∀ k, d k < 256) (N p nb pos : Nat) (hp : p + nb = 8 * pos) (hlt : pos < N) :
    bv (dnum d N) p (nb + 8) = bv (dnum d N) p nb + d pos * 2 ^ nb := by
  have hb := dnum_byte d h N pos hlt
  unfold bv
  rw [Nat.pow_add, Nat.mod_mul, Nat.div_div_eq_div_mul, ← Nat.pow_add, hp, ← pow256, show (2 : Nat) ^ 8 = 256 from rfl, hb, Nat.mul_comm]
theorem bv_shift (D p nb k : Nat) (hk : k ≤ nb) : bv D p nb / 2 ^ k = bv D (p + k) (nb - k) := by
  unfold bv
  have e : 2 ^ nb = 2 ^ k * 2 ^ (nb - k) := by rw [← Nat.pow_add]; congr 1; omega
  rw [e, Nat.mod_mul_right_div_self, Nat.div_div_eq_div_mul, ← Nat.pow_add]
theorem bv_mod (D p nb k : Nat) (hk : k ≤ nb) : bv D p nb % 2 ^ k = bv D p k := by
  unfold bv
  exact Nat.mod_mod_of_dvd _ (Nat.pow_dvd_pow 2 hk)
theorem or_high (b c nb : Nat) (hb : b < 2 ^ nb) : b ||| (c * 2 ^ nb) = b + c * 2 ^ nb := by
  have := Nat.two_pow_add_eq_or_of_lt hb c
  rw [Nat.mul_comm c, Nat.or_comm, ← this, Nat.add_comm]
theorem bv_add (D p a b : Nat) : bv D p (a + b) = bv D p a + 2 ^ a * bv D (p + a) b := by
  unfold bv
  rw [Nat.pow_add, Nat.mod_mul, Nat.div_div_eq_div_mul, ← Nat.pow_add]
end Go.Proofs.YtejeloeaklpinaaDoor
