/-
  The operations on bits of uint64 as operations on natural numbers.
-/
import Derived.WalkKit
namespace Go.Proofs.YtjipjhpehfbpkaaDoor
namespace M
set_option linter.unusedVariables false

theorem wrap64_nat (n : Nat) : IntKind.u64.wrap (n : Int) = ((n % 18446744073709551616 : Nat) : Int) := by
  simp only [IntKind.wrap, IntKind.bits, IntKind.signed]
  simp
theorem wrap64_small {n : Nat} (h : n < 18446744073709551616) : IntKind.u64.wrap (n : Int) = n := by rw [wrap64_nat, Nat.mod_eq_of_lt h]
theorem ofInt_nat (a : Nat) : BitVec.ofInt 64 (a : Int) = BitVec.ofNat 64 a := by
  apply BitVec.eq_of_toNat_eq
  simp
theorem and64 {a b : Nat} (ha : a < 18446744073709551616) (hb : b < 18446744073709551616) : Go.bits .and .u64 (a : Int) (b : Int) = ((a &&& b : Nat) : Int) := by
  show IntKind.u64.wrap (((BitVec.ofInt 64 (a : Int) &&& BitVec.ofInt 64 (b : Int)).toNat : Nat) : Int) = _
  rw [ofInt_nat, ofInt_nat, BitVec.toNat_and, BitVec.toNat_ofNat, BitVec.toNat_ofNat, Nat.mod_eq_of_lt (show a < 2 ^ 64 from ha), Nat.mod_eq_of_lt (show b < 2 ^ 64 from hb)]
  exact wrap64_small (Nat.lt_of_le_of_lt Nat.and_le_left ha)
theorem or64 {a b : Nat} (ha : a < 18446744073709551616) (hb : b < 18446744073709551616) : Go.bits .or .u64 (a : Int) (b : Int) = ((a ||| b : Nat) : Int) := by
  show IntKind.u64.wrap (((BitVec.ofInt 64 (a : Int) ||| BitVec.ofInt 64 (b : Int)).toNat : Nat) : Int) = _
  rw [ofInt_nat, ofInt_nat, BitVec.toNat_or, BitVec.toNat_ofNat, BitVec.toNat_ofNat, Nat.mod_eq_of_lt (show a < 2 ^ 64 from ha), Nat.mod_eq_of_lt (show b < 2 ^ 64 from hb)]
  exact wrap64_small (show _ < 2 ^ 64 from Nat.or_lt_two_pow (show a < 2 ^ 64 from ha) (show b < 2 ^ 64 from hb))
theorem xor64 {a b : Nat} (ha : a < 18446744073709551616) (hb : b < 18446744073709551616) : Go.bits .xor .u64 (a : Int) (b : Int) = ((a ^^^ b : Nat) : Int) := by
  show IntKind.u64.wrap (((BitVec.ofInt 64 (a : Int) ^^^ BitVec.ofInt 64 (b : Int)).toNat : Nat) : Int) = _
  rw [ofInt_nat, ofInt_nat, BitVec.toNat_xor, BitVec.toNat_ofNat, BitVec.toNat_ofNat, Nat.mod_eq_of_lt (show a < 2 ^ 64 from ha), Nat.mod_eq_of_lt (show b < 2 ^ 64 from hb)]
  exact wrap64_small (show _ < 2 ^ 64 from Nat.xor_lt_two_pow (show a < 2 ^ 64 from ha) (show b < 2 ^ 64 from hb))
theorem andNot64 {a b : Nat} (ha : a < 18446744073709551616) (hb : b < 18446744073709551616) : Go.bits .andNot .u64 (a : Int) (b : Int) = ((a &&& (18446744073709551615 ^^^ b) : Nat) : Int) := by
  have e : ∀ x : Nat, x < 2 ^ 64 → (~~~(BitVec.ofNat 64 x)).toNat = 18446744073709551615 ^^^ x := by
    intro x hx
    have h1 : ~~~(BitVec.ofNat 64 x) = BitVec.allOnes 64 ^^^ BitVec.ofNat 64 x := BitVec.not_def
    rw [h1, BitVec.toNat_xor, BitVec.toNat_allOnes, BitVec.toNat_ofNat, Nat.mod_eq_of_lt hx]
  show IntKind.u64.wrap (((BitVec.ofInt 64 (a : Int) &&& ~~~BitVec.ofInt 64 (b : Int)).toNat : Nat) : Int) = _
  rw [ofInt_nat, ofInt_nat, BitVec.toNat_and, e b hb, BitVec.toNat_ofNat, Nat.mod_eq_of_lt (show a < 2 ^ 64 from ha)]
  exact wrap64_small (Nat.lt_of_le_of_lt Nat.and_le_left ha)
theorem shl64 (a n : Nat) : IntKind.u64.wrap ((a : Int) * 2 ^ n) = ((a * 2 ^ n % 18446744073709551616 : Nat) : Int) := by
  have : (a : Int) * 2 ^ n = ((a * 2 ^ n : Nat) : Int) := by simp
  rw [this, wrap64_nat]
theorem shl_one {n : Nat} (h : n < 64) : IntKind.u64.wrap ((1 : Int) * 2 ^ n) = ((2 ^ n : Nat) : Int) := by
  have h2 : 2 ^ n < 2 ^ 64 := Nat.pow_lt_pow_right (by omega) h
  have := shl64 1 n
  rw [Nat.one_mul, Nat.mod_eq_of_lt h2] at this
  exact this
theorem ones_shl {n : Nat} (h : n ≤ 64) : IntKind.u64.wrap ((18446744073709551615 : Int) * 2 ^ n) = ((18446744073709551616 - 2 ^ n : Nat) : Int) := by
  have h1 : 2 ^ n ≤ 2 ^ 64 := Nat.pow_le_pow_right (by omega) h
  have h0 : 0 < 2 ^ n := Nat.pow_pos (by omega)
  have e : 18446744073709551615 * 2 ^ n = 18446744073709551616 * (2 ^ n - 1) + (18446744073709551616 - 2 ^ n) := by omega
  have := shl64 18446744073709551615 n
  rw [e, Nat.mul_add_mod_self_left, Nat.mod_eq_of_lt (by omega)] at this
  exact this
/-- a bit asked for -/
theorem shr_and (b n : Nat) : (b / 2 ^ n) &&& 1 = if b.testBit n then 1 else 0 := by
  rw [Nat.testBit_eq_decide_div_mod_eq, Nat.and_one_is_mod]
  have : b / 2 ^ n % 2 < 2 := Nat.mod_lt _ (by omega)
  split
  · rename_i h; simpa using h
  · rename_i h
    simp at h
    omega
end M
end Go.Proofs.YtjipjhpehfbpkaaDoor
