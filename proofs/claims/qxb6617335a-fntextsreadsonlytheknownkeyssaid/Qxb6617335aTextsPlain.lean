import Derived.WalkKit
namespace Go.Proofs.Qxb6617335a.Tx
open Go.RowKit
set_option linter.unusedVariables false

/-- is the text written under reasoning_content? -/
def c1 (k : Int) : Bool := (k == 0) || (bits .and .u8 k 1 != 0)
/-- is the text written under reasoning? -/
def c2 (k : Int) : Bool := (k != 0) && (bits .and .u8 k 2 != 0)

theorem nat_of_u8 {k : Int} (h : (Lit.int .u8 k).wf = true) : ∃ a : Nat, k = (a : Int) ∧ a < 256 := by
  simp only [Lit.wf, Bool.and_eq_true, decide_eq_true_eq] at h
  have h1 : IntKind.u8.min = 0 := rfl
  have h2 : IntKind.u8.max = 255 := rfl
  rw [h1, h2] at h
  exact ⟨k.toNat, by omega, by omega⟩

theorem and1 (a : Nat) (h : a < 256) : bits .and .u8 (a : Int) 1 = ((a % 2 : Nat) : Int) := by
  have := u8_and_nat a 1 h (by decide)
  rw [nat_mask1] at this
  exact this

theorem and2 (a : Nat) (h : a < 256) : bits .and .u8 (a : Int) 2 = ((a / 2 % 2 * 2 : Nat) : Int) := by
  have := u8_and_nat a 2 h (by decide)
  rw [nat_bit 1 a] at this
  exact this

theorem and3 (a : Nat) (h : a < 256) : bits .and .u8 (a : Int) 3 = ((a % 4 : Nat) : Int) := by
  have := u8_and_nat a 3 h (by decide)
  rw [nat_mask2] at this
  exact this

theorem or_parts (a b : Nat) (ha : a < 256) (hb : b < 256) : ∃ c : Nat, bits .or .u8 (a : Int) (b : Int) = (c : Int) ∧ c < 256 ∧ (c = 0 ↔ a = 0 ∧ b = 0) ∧ (c % 2 = 0 ↔ a % 2 = 0 ∧ b % 2 = 0) ∧ (c / 2 % 2 = 0 ↔ a / 2 % 2 = 0 ∧ b / 2 % 2 = 0) := by
  refine ⟨a ||| b, u8_or_nat a b ha hb, Nat.or_lt_two_pow (n := 8) ha hb, Nat.or_eq_zero_iff, ?_, ?_⟩
  · have e := Nat.or_mod_two_pow (a := a) (b := b) (n := 1)
    simp only [Nat.pow_one] at e
    rw [e, Nat.or_eq_zero_iff]
  · have e := Nat.or_mod_two_pow (a := a / 2) (b := b / 2) (n := 1)
    have d : (a ||| b) / 2 = a / 2 ||| b / 2 := Nat.or_div_two
    simp only [Nat.pow_one] at e
    rw [d, e, Nat.or_eq_zero_iff]

end Go.Proofs.Qxb6617335a.Tx
