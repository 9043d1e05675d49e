/-
  The bits of a range with a step, as the shifts and the loop give them.
-/
import Derived.Test.YtjipjhpehfbpkaaDoorCItem
import Derived.Test.YtjipjhpehfbpkaaDoorCBits
namespace Go.Proofs.YtjipjhpehfbpkaaDoor
namespace M
set_option linter.unusedVariables false

theorem ones_test (k i : Nat) (h : k ≤ 64) : (18446744073709551616 - 2 ^ k).testBit i = decide (k ≤ i ∧ i < 64) := by
  have h0 : 0 < 2 ^ k := Nat.pow_pos (by omega)
  have e : 18446744073709551616 - 2 ^ k = 2 ^ 64 - ((2 ^ k - 1) + 1) := by omega
  have hl : 2 ^ k - 1 < 2 ^ 64 := by
    have : 2 ^ k ≤ 2 ^ 64 := Nat.pow_le_pow_right (by omega) h
    omega
  rw [e, Nat.testBit_two_pow_sub_succ hl, Nat.testBit_two_pow_sub_one, Bool.eq_iff_iff]
  simp only [Bool.and_eq_true, Bool.not_eq_true', decide_eq_true_eq, decide_eq_false_iff_not]
  omega
theorem ones_lt (k : Nat) : 18446744073709551616 - 2 ^ k < 18446744073709551616 := by
  have h0 : 0 < 2 ^ k := Nat.pow_pos (by omega)
  omega
/-- step 1: by shifts -/
theorem gbits_shift (mn mx : Nat) (h1 : mn ≤ 64) (h2 : mx ≤ 63) : (18446744073709551615 ^^^ (18446744073709551616 - 2 ^ (mx + 1))) &&& (18446744073709551616 - 2 ^ mn) = gbits mn mx 1 := by
  apply Nat.eq_of_testBit_eq
  intro i
  have e : (18446744073709551615 : Nat) = 18446744073709551616 - 2 ^ 0 := rfl
  rw [Nat.testBit_and, Nat.testBit_xor, e, ones_test 0 i (by omega), ones_test (mx + 1) i (by omega), ones_test mn i h1, gbits_test, Bool.eq_iff_iff]
  have hm : (i - mn) % 1 = 0 := Nat.mod_one _
  simp only [Bool.and_eq_true, bne_iff_ne, ne_eq, decide_eq_true_eq, decide_eq_decide, hm, and_true]
  by_cases a1 : i < 64 <;> by_cases a2 : mx + 1 ≤ i <;> by_cases a3 : mn ≤ i <;> simp [a1, a2, a3] <;> omega
/-- what the loop has laid before i -/
def GB (mn mx st i B : Nat) : Prop := ∀ j, B.testBit j = decide (j < i ∧ mn ≤ j ∧ j ≤ mx ∧ (j - mn) % st = 0)
theorem GB.zero (mn mx st : Nat) : GB mn mx st mn 0 := fun j => by
  rw [Nat.zero_testBit]
  symm
  rw [decide_eq_false_iff_not]
  omega
theorem GB.step {mn mx st i B : Nat} (h : GB mn mx st i B) (hi : i ≤ mx) (h1 : mn ≤ i) (h2 : (i - mn) % st = 0) (hst : 0 < st) : GB mn mx st (i + st) (B ||| 2 ^ i) := fun j => by
  rw [Nat.testBit_or, h j, Nat.testBit_two_pow, Bool.eq_iff_iff]
  simp only [Bool.or_eq_true, decide_eq_true_eq]
  constructor
  · rintro (⟨a, b⟩ | rfl)
    · exact ⟨by omega, b⟩
    · exact ⟨by omega, h1, hi, h2⟩
  · rintro ⟨a, b, c, d⟩
    by_cases hj : j < i
    · exact .inl ⟨hj, b, c, d⟩
    · right
      have e : j - mn = (i - mn) + (j - i) := by omega
      rw [e, Nat.add_mod, h2, Nat.zero_add, Nat.mod_mod] at d
      have : j - i < st := by omega
      rw [Nat.mod_eq_of_lt this] at d
      omega
theorem GB.fin {mn mx st i B : Nat} (h : GB mn mx st i B) (hi : mx < i) (hm : mx ≤ 63) : B = gbits mn mx st := by
  apply Nat.eq_of_testBit_eq
  intro j
  rw [h j, gbits_test, Bool.eq_iff_iff]
  simp only [decide_eq_true_eq]
  omega
theorem GB.lt {mn mx st i B : Nat} (h : GB mn mx st i B) (hm : mx ≤ 63) : B < 18446744073709551616 := by
  have : B < 2 ^ 64 := lt_of_test (fun j hj => by
    rw [h j, decide_eq_false_iff_not]
    omega)
  exact this
theorem GB.mod {mn st i : Nat} (h1 : mn ≤ i) (h2 : (i - mn) % st = 0) : (i + st - mn) % st = 0 := by
  have e : i + st - mn = (i - mn) + st := by omega
  rw [e, Nat.add_mod_right, h2]
theorem gb_low {s e st : Nat} (h : s ≤ e) (he : e ≤ 62) : (gbits s e st / 2 ^ s) &&& 1 = 1 := by
  rw [shr_and, gbits_test, if_pos]
  simp only [decide_eq_true_eq]
  exact ⟨by omega, Nat.le_refl _, h, by rw [Nat.sub_self]; exact Nat.zero_mod _⟩
theorem gb_high {s e : Nat} (h : s ≤ e) (he : e ≤ 62) : gbits s e 1 / 2 ^ e = 1 := by
  rw [← Nat.shiftRight_eq_div_pow]
  apply Nat.eq_of_testBit_eq
  intro i
  rw [Nat.testBit_shiftRight, gbits_test, Bool.eq_iff_iff]
  have h1 : (1 : Nat).testBit i = decide (0 = i) := by
    have := @Nat.testBit_two_pow 0 i
    simpa using this
  rw [h1]
  simp only [decide_eq_true_eq, Nat.mod_one, and_true]
  omega
theorem gb_under (s e st : Nat) : gbits s e st &&& (2 ^ s - 1) = 0 := by
  apply Nat.eq_of_testBit_eq
  intro i
  rw [Nat.testBit_and, gbits_test, Nat.testBit_two_pow_sub_one, Nat.zero_testBit, Bool.and_eq_false_iff, decide_eq_false_iff_not, decide_eq_false_iff_not]
  omega
theorem gb_one {s e st : Nat} (h : s ≤ e) (he : e ≤ 62) (hs : e - s < st) : gbits s e st = 2 ^ s := by
  apply Nat.eq_of_testBit_eq
  intro i
  rw [gbits_test, Nat.testBit_two_pow, Bool.eq_iff_iff]
  simp only [decide_eq_true_eq]
  constructor
  · rintro ⟨a, b, c, d⟩
    rw [Nat.mod_eq_of_lt (by omega)] at d
    omega
  · rintro rfl
    exact ⟨by omega, Nat.le_refl _, h, by rw [Nat.sub_self]; exact Nat.zero_mod _⟩
end M
end Go.Proofs.YtjipjhpehfbpkaaDoor
