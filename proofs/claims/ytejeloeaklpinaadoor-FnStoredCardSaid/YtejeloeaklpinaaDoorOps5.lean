/- Bits of signed integers; two bytes as one number. -/
import Derived.Test.YtejeloeaklpinaaDoorOps4
namespace Go.Proofs.YtejeloeaklpinaaDoor
theorem ofInt_nat64 (x : Nat) (hx : x < 18446744073709551616) : (BitVec.ofInt 64 (x : Int)).toNat = x := by
  rw [BitVec.ofInt_natCast, BitVec.toNat_ofNat]; exact Nat.mod_eq_of_lt hx
section
variable {t : TypeId} {a b : Int} {x y : Nat}
theorem bn_or64 (ha : a = (x : Int)) (hb : b = (y : Int)) (hx : x < 9223372036854775808) (hy : y < 9223372036854775808) : binOp .or t (.int .i64 a) (.int .i64 b) = pure (.int .i64 ((x ||| y : Nat) : Int)) := by
  subst ha hb
  have hz : x ||| y < 2 ^ 63 := Nat.or_lt_two_pow hx hy
  show Op.intBits .or .i64 (x : Int) (y : Int) = _
  have e1 : (BitVec.ofInt IntKind.i64.bits (x : Int)).toNat = x := ofInt_nat64 x (by omega)
  have e2 : (BitVec.ofInt IntKind.i64.bits (y : Int)).toNat = y := ofInt_nat64 y (by omega)
  simp only [Op.intBits, BitVec.toNat_or, e1, e2]
  rw [wrap_s64 _ (by omega) (by omega)]
theorem bn_and64 (ha : a = (x : Int)) (hb : b = (y : Int)) (hx : x < 9223372036854775808) (hy : y < 9223372036854775808) : binOp .and t (.int .i64 a) (.int .i64 b) = pure (.int .i64 ((x &&& y : Nat) : Int)) := by
  subst ha hb
  have hz : x &&& y < 2 ^ 63 := Nat.and_lt_two_pow _ hy
  show Op.intBits .and .i64 (x : Int) (y : Int) = _
  have e1 : (BitVec.ofInt IntKind.i64.bits (x : Int)).toNat = x := ofInt_nat64 x (by omega)
  have e2 : (BitVec.ofInt IntKind.i64.bits (y : Int)).toNat = y := ofInt_nat64 y (by omega)
  simp only [Op.intBits, BitVec.toNat_and, e1, e2]
  rw [wrap_s64 _ (by omega) (by omega)]
theorem bn_mask64s {k : Nat} (ha : a = (x : Int)) (hb : b = ((2 ^ k - 1 : Nat) : Int)) (hx : x < 9223372036854775808) (hk : k ≤ 62) : binOp .and t (.int .i64 a) (.int .i64 b) = pure (.int .i64 ((x % 2 ^ k : Nat) : Int)) := by
  have hp : (2 : Nat) ^ k ≤ 2 ^ 62 := Nat.pow_le_pow_right (by omega) hk
  have h1 : 0 < (2 : Nat) ^ k := Nat.two_pow_pos k
  rw [← Nat.and_two_pow_sub_one_eq_mod]
  exact bn_and64 ha hb hx (by omega)
end
section
variable {ρ : Operand → Value} {d : Option Nat} {x y z : Operand} {ty : TypeId} {pos : String} {af : Array Edge} {gd : Option (Nat × Bool)} {w : World}
theorem un_xor {t : TypeId} {n : Nat} (hx : ρ x = .int .i64 (n : Int)) (hn : n < 9223372036854775808) : (execOp ρ ⟨d, .unOp .xor t x, ty, pos, af, gd⟩).run Tryd.prog w = .ok (.value (.int .i64 (-(n : Int) - 1))) w := by
  have e : (BitVec.ofInt 64 (-1) ^^^ BitVec.ofInt 64 (n : Int)).toNat = 18446744073709551615 - n := by
    have h1 : BitVec.ofInt 64 (-1) = BitVec.allOnes 64 := by decide
    rw [h1, BitVec.allOnes_xor, BitVec.toNat_not, ofInt_nat64 n (by omega)]
  have hr : Op.unary .xor (.int .i64 (n : Int)) = pure (.int .i64 (-(n : Int) - 1)) := by
    show Op.intBits .xor .i64 (-1) (n : Int) = _
    show pure (Value.int .i64 (IntKind.i64.wrap ((BitVec.ofInt 64 (-1) ^^^ BitVec.ofInt 64 (n : Int)).toNat : Int))) = _
    rw [e]
    congr 2
    have e2 : ((18446744073709551615 - n : Nat) : Int) = 18446744073709551615 - (n : Int) := by omega
    rw [e2]
    simp only [IntKind.wrap, IntKind.bits, IntKind.signed, Bool.true_and]
    split <;> rename_i h <;> simp at h <;> omega
  simp only [execOp, hx, hr]
  rfl
end
theorem wrap_u16x (n : Nat) (hn : n < 65536) : IntKind.u16.wrap (-(n : Int) - 1) = ((65535 - n : Nat) : Int) := by
  simp [IntKind.wrap, IntKind.bits, IntKind.signed]; omega
theorem or_bytes (x y : Nat) (hx : x < 256) : x ||| (y * 2 ^ 8) = x + 256 * y := by
  rw [or_high x y 8 hx]; omega
theorem bv16 (d : Nat → Nat) (h : ∀ k, d k < 256) (N k : Nat) (hk : k + 1 < N) : bv (dnum d N) (8 * k) 16 = d k + 256 * d (k + 1) := by
  have e0 : bv (dnum d N) (8 * k) 8 = d k := by
    have := bv_more d h N (8 * k) 0 k (by omega) (by omega)
    simpa [bv_zero] using this
  have e1 := bv_more d h N (8 * k) 8 (k + 1) (by omega) (by omega)
  rw [e0] at e1
  rw [show (16 : Nat) = 8 + 8 from rfl, e1]
  omega
theorem und91 : Tryd.prog.underlying 91 = some (.array 4 5) := by kernel_rfl
end Go.Proofs.YtejeloeaklpinaaDoor
