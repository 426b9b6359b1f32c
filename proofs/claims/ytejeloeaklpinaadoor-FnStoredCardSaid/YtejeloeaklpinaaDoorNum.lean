/- What the operators give on integers that are in range. -/
import Derived.Test.YtejeloeaklpinaaDoorOps
namespace Go.Proofs.YtejeloeaklpinaaDoor

theorem wrap_s64 (n : Int) (h1 : -9223372036854775808 ≤ n) (h2 : n < 9223372036854775808) : IntKind.i64.wrap n = n := by
  simp only [IntKind.wrap, IntKind.bits, IntKind.signed, Bool.true_and]
  split <;> rename_i h <;> simp at h <;> omega
theorem wrap_u64n (n : Int) (h1 : 0 ≤ n) (h2 : n < 18446744073709551616) : IntKind.u64.wrap n = n := by
  simp [IntKind.wrap, IntKind.bits, IntKind.signed]; omega
theorem wrap_u32n (n : Int) (h1 : 0 ≤ n) (h2 : n < 4294967296) : IntKind.u32.wrap n = n := by
  simp [IntKind.wrap, IntKind.bits, IntKind.signed]; omega
theorem wrap_u16n (n : Int) (h1 : 0 ≤ n) (h2 : n < 65536) : IntKind.u16.wrap n = n := by
  simp [IntKind.wrap, IntKind.bits, IntKind.signed]; omega
theorem wrap_u8n (n : Int) (h1 : 0 ≤ n) (h2 : n < 256) : IntKind.u8.wrap n = n := by
  simp [IntKind.wrap, IntKind.bits, IntKind.signed]; omega

section
variable {t : TypeId} {a b c : Int}
theorem bn_add (hc : a + b = c) (h1 : -9223372036854775808 ≤ c) (h2 : c < 9223372036854775808) : binOp .add t (.int .i64 a) (.int .i64 b) = pure (.int .i64 c) := by
  subst hc; show pure (Value.int .i64 (IntKind.i64.wrap (a + b))) = _; rw [wrap_s64 _ h1 h2]
theorem bn_sub (hc : a - b = c) (h1 : -9223372036854775808 ≤ c) (h2 : c < 9223372036854775808) : binOp .sub t (.int .i64 a) (.int .i64 b) = pure (.int .i64 c) := by
  subst hc; show pure (Value.int .i64 (IntKind.i64.wrap (a - b))) = _; rw [wrap_s64 _ h1 h2]
theorem bn_mul (hc : a * b = c) (h1 : -9223372036854775808 ≤ c) (h2 : c < 9223372036854775808) : binOp .mul t (.int .i64 a) (.int .i64 b) = pure (.int .i64 c) := by
  subst hc; show pure (Value.int .i64 (IntKind.i64.wrap (a * b))) = _; rw [wrap_s64 _ h1 h2]
theorem bn_addw : binOp .add t (.int .i64 a) (.int .i64 b) = pure (.int .i64 (IntKind.i64.wrap (a + b))) := rfl
theorem bn_addu (hc : a + b = c) (h1 : 0 ≤ c) (h2 : c < 18446744073709551616) : binOp .add t (.int .u64 a) (.int .u64 b) = pure (.int .u64 c) := by
  subst hc; show pure (Value.int .u64 (IntKind.u64.wrap (a + b))) = _; rw [wrap_u64n _ h1 h2]
theorem bn_subu (hc : a - b = c) (h1 : 0 ≤ c) (h2 : c < 18446744073709551616) : binOp .sub t (.int .u64 a) (.int .u64 b) = pure (.int .u64 c) := by
  subst hc; show pure (Value.int .u64 (IntKind.u64.wrap (a - b))) = _; rw [wrap_u64n _ h1 h2]
theorem bn_sub32 (hc : a - b = c) (h1 : 0 ≤ c) (h2 : c < 4294967296) : binOp .sub t (.int .u32 a) (.int .u32 b) = pure (.int .u32 c) := by
  subst hc; show pure (Value.int .u32 (IntKind.u32.wrap (a - b))) = _; rw [wrap_u32n _ h1 h2]
variable {k : IntKind}
theorem bn_lss {v : Bool} (hv : decide (a < b) = v) : binOp .lss t (.int k a) (.int k b) = pure (.bool v) := by
  subst hv; simp [binOp, Op.intCmp]
theorem bn_leq {v : Bool} (hv : decide (a ≤ b) = v) : binOp .leq t (.int k a) (.int k b) = pure (.bool v) := by
  subst hv; simp [binOp, Op.intCmp]
theorem bn_gtr {v : Bool} (hv : decide (b < a) = v) : binOp .gtr t (.int k a) (.int k b) = pure (.bool v) := by
  subst hv; simp [binOp, Op.intCmp]
theorem bn_geq {v : Bool} (hv : decide (b ≤ a) = v) : binOp .geq t (.int k a) (.int k b) = pure (.bool v) := by
  subst hv; simp [binOp, Op.intCmp]
theorem bn_eql {v : Bool} (hv : decide (a = b) = v) : binOp .eql t (.int k a) (.int k b) = pure (.bool v) := by
  subst hv
  simp only [binOp, Op.intCmp, ne_eq, not_true_eq_false, if_false]
  congr 2
theorem bn_neq {v : Bool} (hv : decide (a = b) = !v) : binOp .neq t (.int k a) (.int k b) = pure (.bool v) := by
  have : v = !decide (a = b) := by rw [hv]; simp
  subst this
  simp only [binOp, Op.intCmp, ne_eq, not_true_eq_false, if_false]
  congr 2
theorem bn_rem {x m : Nat} (ha : a = (x : Int)) (hb : b = (m : Int)) (hm : 0 < m) : binOp .rem t (.int .i64 a) (.int .i64 b) = pure (.int .i64 ((x % m : Nat) : Int)) := by
  subst ha hb
  have : ¬ ((m : Int) = 0) := by omega
  simp only [binOp, Op.intDiv, ne_eq, not_true_eq_false, if_false, this, Int.ofNat_tmod]
theorem bn_quo {x m : Nat} (ha : a = (x : Int)) (hb : b = (m : Int)) (hm : 0 < m) (hx : x < 9223372036854775808) : binOp .quo t (.int .i64 a) (.int .i64 b) = pure (.int .i64 ((x / m : Nat) : Int)) := by
  subst ha hb
  have h0 : ¬ ((m : Int) = 0) := by omega
  have hd : x / m ≤ x := Nat.div_le_self _ _
  simp only [binOp, Op.intDiv, ne_eq, not_true_eq_false, if_false, h0]
  rw [← Int.ofNat_tdiv]
  generalize x / m = q at *
  rw [wrap_s64 _ (by omega) (by omega)]

/-- Bits: over numbers below the kind's size. -/
theorem bits_nat (K : IntKind) (hs : K.signed = false) (x y z : Nat) (op : BinOp) (hx : x < 2 ^ K.bits) (hy : y < 2 ^ K.bits) (hz : z < 2 ^ K.bits)
    (h : (op = .and ∧ z = x &&& y) ∨ (op = .or ∧ z = x ||| y) ∨ (op = .xor ∧ z = x ^^^ y)) :
    Op.intBits op K (x : Int) (y : Int) = pure (.int K (z : Int)) := by
  have e1 : (BitVec.ofInt K.bits (x : Int)).toNat = x := by rw [BitVec.ofInt_natCast, BitVec.toNat_ofNat]; exact Nat.mod_eq_of_lt hx
  have e2 : (BitVec.ofInt K.bits (y : Int)).toNat = y := by rw [BitVec.ofInt_natCast, BitVec.toNat_ofNat]; exact Nat.mod_eq_of_lt hy
  have hw : K.wrap (z : Int) = z := by
    have hz' : ((z : Nat) : Int) < ((2 ^ K.bits : Nat) : Int) := by exact_mod_cast hz
    have : ((z : Int)) % (2 ^ K.bits : Int) = z := Int.emod_eq_of_lt (by omega) (by simpa using hz')
    simp [IntKind.wrap, hs, this]
  rcases h with ⟨rfl, rfl⟩ | ⟨rfl, rfl⟩ | ⟨rfl, rfl⟩
  · simp only [Op.intBits, BitVec.toNat_and, e1, e2, hw]
  · simp only [Op.intBits, BitVec.toNat_or, e1, e2, hw]
  · simp only [Op.intBits, BitVec.toNat_xor, e1, e2, hw]
theorem bn_and32 {x y : Nat} (ha : a = (x : Int)) (hb : b = (y : Int)) (hx : x < 4294967296) (hy : y < 4294967296) : binOp .and t (.int .u32 a) (.int .u32 b) = pure (.int .u32 ((x &&& y : Nat) : Int)) := by
  subst ha hb
  exact bits_nat .u32 rfl x y _ .and hx hy (Nat.and_lt_two_pow _ hy) (.inl ⟨rfl, rfl⟩)
theorem bn_mask32 {x k : Nat} (ha : a = (x : Int)) (hb : b = ((2 ^ k - 1 : Nat) : Int)) (hx : x < 4294967296) (hk : k ≤ 32) : binOp .and t (.int .u32 a) (.int .u32 b) = pure (.int .u32 ((x % 2 ^ k : Nat) : Int)) := by
  have hp : (2 : Nat) ^ k ≤ 2 ^ 32 := Nat.pow_le_pow_right (by omega) hk
  have h1 : 0 < (2 : Nat) ^ k := Nat.two_pow_pos k
  rw [← Nat.and_two_pow_sub_one_eq_mod]
  exact bn_and32 ha hb hx (by omega)
theorem bn_or32 {x y : Nat} (ha : a = (x : Int)) (hb : b = (y : Int)) (hx : x < 4294967296) (hy : y < 4294967296) : binOp .or t (.int .u32 a) (.int .u32 b) = pure (.int .u32 ((x ||| y : Nat) : Int)) := by
  subst ha hb
  exact bits_nat .u32 rfl x y _ .or hx hy (Nat.or_lt_two_pow hx hy) (.inr (.inl ⟨rfl, rfl⟩))
theorem bn_mask64 {x k : Nat} (ha : a = (x : Int)) (hb : b = ((2 ^ k - 1 : Nat) : Int)) (hx : x < 18446744073709551616) (hk : k ≤ 64) : binOp .and t (.int .u64 a) (.int .u64 b) = pure (.int .u64 ((x % 2 ^ k : Nat) : Int)) := by
  have hp : (2 : Nat) ^ k ≤ 2 ^ 64 := Nat.pow_le_pow_right (by omega) hk
  have h1 : 0 < (2 : Nat) ^ k := Nat.two_pow_pos k
  subst ha hb
  rw [← Nat.and_two_pow_sub_one_eq_mod]
  exact bits_nat .u64 rfl x _ _ .and hx (show _ < 2 ^ 64 by omega) (Nat.and_lt_two_pow _ (show _ < 2 ^ 64 by omega)) (.inl ⟨rfl, rfl⟩)
/-- Shifts. -/
theorem bn_shr {K K' : IntKind} {x n : Nat} (ha : a = (x : Int)) (hb : b = (n : Int)) (hn : n ≤ K.bits) : binOp .shr t (.int K a) (.int K' b) = pure (.int K ((x / 2 ^ n : Nat) : Int)) := by
  subst ha hb
  have h0 : ¬ ((n : Int) < 0) := by omega
  simp only [binOp, Op.shift, h0, if_false, Int.toNat_natCast, Nat.min_eq_left hn]
  congr 2
  rw [Int.fdiv_eq_ediv_of_nonneg _ (Int.pow_nonneg (by omega))]
  simp
theorem bn_shl {K K' : IntKind} {x n : Nat} (ha : a = (x : Int)) (hb : b = (n : Int)) (hn : n ≤ K.bits) (hw : K.wrap ((x * 2 ^ n : Nat) : Int) = ((x * 2 ^ n : Nat) : Int)) :
    binOp .shl t (.int K a) (.int K' b) = pure (.int K ((x * 2 ^ n : Nat) : Int)) := by
  subst ha hb
  have h0 : ¬ ((n : Int) < 0) := by omega
  simp only [binOp, Op.shift, h0, if_false, Int.toNat_natCast, Nat.min_eq_left hn]
  rw [← hw]
  simp
theorem bn_shl32 {K' : IntKind} {x n : Nat} (ha : a = (x : Int)) (hb : b = (n : Int)) (hn : n ≤ 32) (hw : x * 2 ^ n < 4294967296) :
    binOp .shl t (.int .u32 a) (.int K' b) = pure (.int .u32 ((x * 2 ^ n : Nat) : Int)) := bn_shl ha hb hn (wrap_u32n _ (by omega) (by omega))
theorem bn_shl64 {K' : IntKind} {x n : Nat} (ha : a = (x : Int)) (hb : b = (n : Int)) (hn : n ≤ 64) (hw : x * 2 ^ n < 9223372036854775808) :
    binOp .shl t (.int .i64 a) (.int K' b) = pure (.int .i64 ((x * 2 ^ n : Nat) : Int)) := bn_shl ha hb hn (wrap_s64 _ (by omega) (by omega))
end
end Go.Proofs.YtejeloeaklpinaaDoor
