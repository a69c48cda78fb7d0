import Derived.WalkKit
import Derived.WalkLawsBesides
namespace Go.Proofs.Qxb6617335a.Pc
set_option linter.unusedVariables false

theorem wrap64_nat (n : Nat) : IntKind.u64.wrap (n : Int) = ((n % 18446744073709551616 : Nat) : Int) := by
  rw [IntKind.wrap_u64]; omega

theorem and127 (b : Nat) (hb : b < 256) : bits .and .u8 (b : Int) 127 = ((b % 128 : Nat) : Int) := by
  have := u8_and_nat b 127 hb (by decide)
  rw [nat_mask7] at this
  exact this

/-- v<<7 | uint64(b&0x7f) -/
theorem or_step (v b : Nat) (hb : b < 256) (hv : v < 18446744073709551616) :
    bits .or .u64 (IntKind.u64.wrap ((v : Int) * 128)) (IntKind.u64.wrap (bits .and .u8 (b : Int) 127)) = (((b % 128 + 128 * v) % 18446744073709551616 : Nat) : Int) := by
  rw [and127 b hb, wrap64_nat, show (v : Int) * 128 = ((v * 128 : Nat) : Int) by omega, wrap64_nat, u64_or_nat _ _ (by omega) (by omega), nat_join 7 _ _ (by omega) (by omega)]
  omega


theorem pow_big (b n : Nat) (h : 64 ≤ n) : b * 2 ^ n % 18446744073709551616 = 0 := by
  have e : 2 ^ n = 18446744073709551616 * 2 ^ (n - 64) := by
    rw [show (18446744073709551616 : Nat) = 2 ^ 64 by decide, ← Nat.pow_add]
    congr 1; omega
  rw [e, ← Nat.mul_assoc, Nat.mul_comm b, Nat.mul_assoc]
  exact Nat.mul_mod_right _ _

/-- uint64(b&0x7f) << (7*j) -/
theorem shl_step {P : Program} (b j : Nat) (hb : b < 256) (W : World) :
    (Op.shift .shl .u64 (IntKind.u64.wrap (bits .and .u8 (b : Int) 127)) .i64 (7 * (j : Int))).run P W = .ok (.int .u64 ((b % 128 * 2 ^ (7 * j) % 18446744073709551616 : Nat) : Int)) W := by
  rw [and127 b hb, wrap64_nat, show b % 128 % 18446744073709551616 = b % 128 by omega]
  have h0 : ¬ (7 * (j : Int)) < 0 := by omega
  have hn : (7 * (j : Int)).toNat = 7 * j := by omega
  simp only [Op.shift, if_neg h0, hn]
  have hb : IntKind.u64.bits = 64 := rfl
  rw [hb]
  by_cases h : 7 * j ≤ 64
  · rw [Nat.min_eq_left h]
    have e : ((b % 128 : Nat) : Int) * 2 ^ (7 * j) = ((b % 128 * 2 ^ (7 * j) : Nat) : Int) := by simp
    rw [e, wrap64_nat]
    rfl
  · rw [Nat.min_eq_right (by omega)]
    have e : ((b % 128 : Nat) : Int) * 2 ^ 64 = ((b % 128 * 2 ^ 64 : Nat) : Int) := by simp
    rw [e, wrap64_nat, pow_big _ 64 (by omega), pow_big _ (7 * j) (by omega)]
    rfl

/-- v | x where v lies below x's lowest part -/
theorem or_fwd (v b n : Nat) (hv : v < 18446744073709551616) (hn : v < 2 ^ n) :
    bits .or .u64 (v : Int) ((b * 2 ^ n % 18446744073709551616 : Nat) : Int) = (((v + b * 2 ^ n) % 18446744073709551616 : Nat) : Int) := by
  rw [u64_or_nat _ _ hv (Nat.mod_lt _ (by decide))]
  congr 1
  by_cases h : 64 ≤ n
  · rw [pow_big b n h, Nat.or_zero, Nat.add_mod, pow_big b n h]
    omega
  · obtain ⟨Q, hQ, hQ0⟩ : ∃ Q, 18446744073709551616 = 2 ^ n * Q ∧ 0 < Q := ⟨2 ^ (64 - n), by
      rw [← Nat.pow_add, show n + (64 - n) = 64 by omega], Nat.pow_pos (by decide)⟩
    have hlt : b % Q < Q := Nat.mod_lt _ hQ0
    have h1 : 2 ^ n * (b % Q) + 2 ^ n ≤ 2 ^ n * Q := by
      have : 2 ^ n * (b % Q + 1) ≤ 2 ^ n * Q := Nat.mul_le_mul_left _ hlt
      rw [Nat.mul_add, Nat.mul_one] at this
      exact this
    have h2 : 2 ^ n * b = 2 ^ n * (b % Q) + 2 ^ n * Q * (b / Q) := by
      rw [Nat.mul_assoc, ← Nat.mul_add, Nat.mod_add_div]
    have hx : b * 2 ^ n % 18446744073709551616 = 2 ^ n * (b % Q) := by rw [hQ, Nat.mul_comm b, Nat.mul_mod_mul_left]
    have hr : (v + b * 2 ^ n) % 18446744073709551616 = v + 2 ^ n * (b % Q) := by
      rw [hQ, Nat.mul_comm b, h2, ← Nat.add_assoc, Nat.add_mul_mod_self_left]
      exact Nat.mod_eq_of_lt (by omega)
    rw [hx, hr, Nat.or_comm, nat_join n _ _ (Nat.mul_mod_right _ _) hn, Nat.add_comm]

/-- h ^ -1 on an int64 -/
theorem xor_neg1 (h : Nat) (hh : h < 9223372036854775808) : bits .xor .i64 (h : Int) (-1) = -(h : Int) - 1 := by
  have e1 : BitVec.ofInt 64 (-1) = BitVec.allOnes 64 := by decide
  show IntKind.i64.wrap ((BitVec.ofInt 64 (h : Int) ^^^ BitVec.ofInt 64 (-1)).toNat : Int) = _
  rw [e1, BitVec.xor_allOnes, BitVec.toNat_not, BitVec.ofInt_natCast, BitVec.toNat_ofNat, IntKind.wrap_i64]
  omega

theorem xor_zero (h : Nat) (hh : h < 9223372036854775808) : bits .xor .i64 (h : Int) 0 = (h : Int) := by
  have e1 : BitVec.ofInt 64 0 = 0#64 := by decide
  show IntKind.i64.wrap ((BitVec.ofInt 64 (h : Int) ^^^ BitVec.ofInt 64 0).toNat : Int) = _
  rw [e1, BitVec.xor_zero, BitVec.ofInt_natCast, BitVec.toNat_ofNat, IntKind.wrap_i64]
  omega

end Go.Proofs.Qxb6617335a.Pc
