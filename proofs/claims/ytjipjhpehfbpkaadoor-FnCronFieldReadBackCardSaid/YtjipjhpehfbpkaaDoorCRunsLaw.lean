/-
  laws.FnCronFieldRuns returns true for all bounds and sets.
-/
import Derived.Test.YtjipjhpehfbpkaaDoorCRuns
namespace Go.Proofs.YtjipjhpehfbpkaaDoor
open Go.RowKit
set_option maxRecDepth 100000
set_option linter.unusedVariables false

namespace M
/-- the bits within the bounds -/
def mask (lo hi b : Nat) : Nat := b &&& ((2 ^ (hi + 1) - 1) &&& (18446744073709551615 ^^^ (2 ^ lo - 1)))
theorem mask_test (lo hi b i : Nat) (hlo : lo ≤ 62) (hhi : hi ≤ 62) : (mask lo hi b).testBit i = (b.testBit i && decide (lo ≤ i ∧ i ≤ hi)) := by
  unfold mask
  have e : (18446744073709551615 : Nat) = 2 ^ 64 - 1 := rfl
  rw [Nat.testBit_and, Nat.testBit_and, Nat.testBit_xor, e, Nat.testBit_two_pow_sub_one, Nat.testBit_two_pow_sub_one, Nat.testBit_two_pow_sub_one]
  congr 1
  by_cases a1 : i < hi + 1 <;> by_cases a2 : i < lo <;> by_cases a3 : i < 64 <;> simp [a1, a2, a3] <;> omega
theorem mask_lt (lo hi b : Nat) (hlo : lo ≤ 62) (hhi : hi ≤ 62) : mask lo hi b < 9223372036854775808 := by
  have : mask lo hi b < 2 ^ 63 := lt_of_test (fun i hi' => by
    rw [mask_test lo hi b i hlo hhi, Bool.and_eq_false_iff, decide_eq_false_iff_not]
    right
    omega)
  exact this
theorem mask_some {lo hi b : Nat} (hlo : lo ≤ 62) (hhi : hi ≤ 62) (h : mask lo hi b ≠ 0) : ∃ i, i < 63 ∧ (mask lo hi b).testBit i = true := by
  obtain ⟨i, hi'⟩ := Nat.exists_testBit_of_ne_zero h
  refine ⟨i, ?_, hi'⟩
  rw [mask_test lo hi b i hlo hhi, Bool.and_eq_true, decide_eq_true_eq] at hi'
  omega
/-- what is written as its runs is read back -/
theorem runs_back {lo hi b : Nat} (hlo : lo ≤ 62) (hhi : hi ≤ 62) {R : List (Nat × Nat)} (hR : RunsTo (mask lo hi b) 63 R) {l : Bs} (hl : l = joinWith 44 (R.map runText)) : field ⟨lo, hi, none⟩ l = some (mask lo hi b) := by
  rw [hl]
  have hlt := mask_lt lo hi b hlo hhi
  refine field_runs (b := ⟨lo, hi, none⟩) (fun f h => by cases h) hhi _ R (show _ < 2 ^ 64 by omega) (fun r hr => ?_) (fun i hi' => ?_)
  · obtain ⟨h1, h2, h3⟩ := hR.1 r hr
    have b1 := (hR.2 r.1 (by omega)).2 ⟨r, hr, Nat.le_refl _, h1⟩
    have b2 := (hR.2 r.2 (by omega)).2 ⟨r, hr, h1, Nat.le_refl _⟩
    rw [mask_test lo hi b _ hlo hhi, Bool.and_eq_true, decide_eq_true_eq] at b1 b2
    exact ⟨b1.2.1, h1, b2.2.2⟩
  · by_cases h63 : i < 63
    · exact hR.2 i h63
    · rw [mask_test lo hi b i hlo hhi]
      constructor
      · intro h
        rw [Bool.and_eq_true, decide_eq_true_eq] at h
        omega
      · rintro ⟨r, hr, _, h2⟩
        have := (hR.1 r hr).2.1
        omega
end M
theorem ones_sub {n : Nat} (h : n ≤ 63) : IntKind.u64.wrap (IntKind.u64.wrap ((2 : Int) ^ n) - 1) = ((2 ^ n - 1 : Nat) : Int) := by
  have hp : 0 < 2 ^ n := Nat.pow_pos (by omega)
  have hq : 2 ^ n < 2 ^ 64 := Nat.pow_lt_pow_right (by omega) (by omega)
  have h1 := M.shl_one (n := n) (by omega)
  rw [Int.one_mul] at h1
  have e : ((2 ^ n : Nat) : Int) - 1 = ((2 ^ n - 1 : Nat) : Int) := by omega
  rw [h1, e, M.wrap64_small (by omega)]
theorem mask_eq (lo hi b : Nat) (hlo : lo ≤ 62) (hhi : hi ≤ 62) (hb : b < 18446744073709551616) :
    bits .and .u64 (b : Int) (bits .andNot .u64 (IntKind.u64.wrap (IntKind.u64.wrap ((2 : Int) ^ (hi + 1)) - 1)) (IntKind.u64.wrap (IntKind.u64.wrap ((2 : Int) ^ lo) - 1))) = ((M.mask lo hi b : Nat) : Int) := by
  have hq1 : 2 ^ (hi + 1) < 2 ^ 64 := Nat.pow_lt_pow_right (by omega) (by omega)
  have hq2 : 2 ^ lo < 2 ^ 64 := Nat.pow_lt_pow_right (by omega) (by omega)
  rw [ones_sub (show hi + 1 ≤ 63 by omega), ones_sub (show lo ≤ 63 by omega), M.andNot64 (by omega) (by omega), M.and64 hb (Nat.lt_of_le_of_lt Nat.and_le_left (by omega))]
  rfl
theorem wf_u64 {n : Int} (h : (Lit.int .u64 n).wf = true) : 0 ≤ n ∧ n < 18446744073709551616 := by
  simp only [Lit.wf, IntKind.min, IntKind.max, IntKind.signed, IntKind.bits, Bool.and_eq_true] at h
  simp at h
  omega
end Go.Proofs.YtjipjhpehfbpkaaDoor
