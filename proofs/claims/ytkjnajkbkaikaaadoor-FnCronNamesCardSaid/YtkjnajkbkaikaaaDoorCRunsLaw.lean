/-
  laws.FnCronFieldRuns returns true for all bounds and sets.
-/
import Derived.Test.YtkjnajkbkaikaaaDoorCRuns
namespace Go.Proofs.YtkjnajkbkaikaaaDoor
open Go.RowKit
set_option maxRecDepth 100000
set_option linter.unusedVariables false

namespace M
/-- the bits within the bounds -/
def mask (lo hi b : Nat) : Nat := b &&& ((2 ^ (hi + 1) - 1) &&& (18446744073709551615 ^^^ (2 ^ lo - 1)))
theorem mask_test (lo hi b i : Nat) (hlo : lo ≤ 62) (hhi : hi ≤ 62) : (mask lo hi b).testBit i = (b.testBit i && decide (lo ≤ i ∧ i ≤ hi)) := by
  unfold mask
  have e : (18446744073709551615 : Nat) = 2 ^ 64 - 1 := rfl
  rw [Nat.testBit_and, Nat.testBit_and, Nat.testBit_xor, e, Nat.testBit_two_pow_sub_one, Nat.testBit_two_pow_sub_one, Nat.testBit_two_pow_sub_one]
  congr 1
  by_cases a1 : i < hi + 1 <;> by_cases a2 : i < lo <;> by_cases a3 : i < 64 <;> simp [a1, a2, a3] <;> omega
theorem mask_lt (lo hi b : Nat) (hlo : lo ≤ 62) (hhi : hi ≤ 62) : mask lo hi b < 9223372036854775808 := by
  have : mask lo hi b < 2 ^ 63 := lt_of_test (fun i hi' => by
    rw [mask_test lo hi b i hlo hhi, Bool.and_eq_false_iff, decide_eq_false_iff_not]
    right
    omega)
  exact this
theorem mask_some {lo hi b : Nat} (hlo : lo ≤ 62) (hhi : hi ≤ 62) (h : mask lo hi b ≠ 0) : ∃ i, i < 63 ∧ (mask lo hi b).testBit i = true := by
  obtain ⟨i, hi'⟩ := Nat.exists_testBit_of_ne_zero h
  refine ⟨i, ?_, hi'⟩
  rw [mask_test lo hi b i hlo hhi, Bool.and_eq_true, decide_eq_true_eq] at hi'
  omega
/-- what is written as its runs is read back -/
theorem runs_back {lo hi b : Nat} (hlo : lo ≤ 62) (hhi : hi ≤ 62) {R : List (Nat × Nat)} (hR : RunsTo (mask lo hi b) 63 R) {l : Bs} (hl : l = joinWith 44 (R.map runText)) : field ⟨lo, hi, none⟩ l = some (mask lo hi b) := by
  rw [hl]
  have hlt := mask_lt lo hi b hlo hhi
  refine field_runs (b := ⟨lo, hi, none⟩) (fun f h => by cases h) hhi _ R (show _ < 2 ^ 64 by omega) (fun r hr => ?_) (fun i hi' => ?_)
  · obtain ⟨h1, h2, h3⟩ := hR.1 r hr
    have b1 := (hR.2 r.1 (by omega)).2 ⟨r, hr, Nat.le_refl _, h1⟩
    have b2 := (hR.2 r.2 (by omega)).2 ⟨r, hr, h1, Nat.le_refl _⟩
    rw [mask_test lo hi b _ hlo hhi, Bool.and_eq_true, decide_eq_true_eq] at b1 b2
    exact ⟨b1.2.1, h1, b2.2.2⟩
  · by_cases h63 : i < 63
    · exact hR.2 i h63
    · rw [mask_test lo hi b i hlo hhi]
      constructor
      · intro h
        rw [Bool.and_eq_true, decide_eq_true_eq] at h
        omega
      · rintro ⟨r, hr, _, h2⟩
        have := (hR.1 r hr).2.1
        omega
end M
theorem boundsIn_yes (lo hi : Nat) (h1 : lo ≤ hi) (h2 : hi ≤ 62) (w : World) : Calls Tryd.prog 17 #[.int .u64 (lo : Int), .int .u64 (hi : Int)] w fun e w' => e = .returned (.bool true) ∧ w = w' := by
  have h3 : (hi : Int) ≤ 62 := by omega
  go_enter Tryd.func17, Tryd.ntmps17
  go_wp2
  go_ret
  exact ⟨rfl, rfl⟩
theorem boundsIn_no (lo hi : Nat) (h : ¬ (lo ≤ hi ∧ hi ≤ 62)) (w : World) : Calls Tryd.prog 17 #[.int .u64 (lo : Int), .int .u64 (hi : Int)] w fun e w' => e = .returned (.bool false) ∧ w = w' := by
  by_cases h1 : lo ≤ hi
  · have h2 : ¬ (hi : Int) ≤ 62 := by omega
    clear h
    go_enter Tryd.func17, Tryd.ntmps17
    go_wp2
    go_ret
    exact ⟨rfl, rfl⟩
  · clear h
    go_enter Tryd.func17, Tryd.ntmps17
    go_wp2
    go_ret
    exact ⟨rfl, rfl⟩
theorem ones_sub {n : Nat} (h : n ≤ 63) : IntKind.u64.wrap (IntKind.u64.wrap ((2 : Int) ^ n) - 1) = ((2 ^ n - 1 : Nat) : Int) := by
  have hp : 0 < 2 ^ n := Nat.pow_pos (by omega)
  have hq : 2 ^ n < 2 ^ 64 := Nat.pow_lt_pow_right (by omega) (by omega)
  have h1 := M.shl_one (n := n) (by omega)
  rw [Int.one_mul] at h1
  have e : ((2 ^ n : Nat) : Int) - 1 = ((2 ^ n - 1 : Nat) : Int) := by omega
  rw [h1, e, M.wrap64_small (by omega)]
theorem mask_eq (lo hi b : Nat) (hlo : lo ≤ 62) (hhi : hi ≤ 62) (hb : b < 18446744073709551616) :
    bits .and .u64 (b : Int) (bits .andNot .u64 (IntKind.u64.wrap (IntKind.u64.wrap ((2 : Int) ^ (hi + 1)) - 1)) (IntKind.u64.wrap (IntKind.u64.wrap ((2 : Int) ^ lo) - 1))) = ((M.mask lo hi b : Nat) : Int) := by
  have hq1 : 2 ^ (hi + 1) < 2 ^ 64 := Nat.pow_lt_pow_right (by omega) (by omega)
  have hq2 : 2 ^ lo < 2 ^ 64 := Nat.pow_lt_pow_right (by omega) (by omega)
  rw [ones_sub (show hi + 1 ≤ 63 by omega), ones_sub (show lo ≤ 63 by omega), M.andNot64 (by omega) (by omega), M.and64 hb (Nat.lt_of_le_of_lt Nat.and_le_left (by omega))]
  rfl
set_option maxHeartbeats 8000000 in
theorem runs_main (lo hi b : Nat) (w : World) (hn : NumErrs w) (h1 : lo ≤ hi) (h2 : hi ≤ 62) (hb : b < 18446744073709551616) :
    Calls Tryd.prog 5 #[.int .u64 (lo : Int), .int .u64 (hi : Int), .int .u64 (b : Int)] w fun e w' => e = .returned (.bool true) ∧ Below w.heap.size w w' := by
  have HN := Lib.hid hn
  have hlo : lo ≤ 62 := by omega
  have h3 : (hi : Int) ≤ 62 := by omega
  have h4 : (lo : Int) ≤ 62 := by omega
  obtain ⟨B, hB⟩ : ∃ B, M.mask lo hi b = B := ⟨_, rfl⟩
  have fm := mask_eq lo hi b hlo h2 hb
  rw [hB] at fm
  have HB := Lib.hid hB
  have HBL := Lib.hid (show B < 18446744073709551616 by have := M.mask_lt lo hi b hlo h2; omega)
  clear hn hb hB
  by_cases h0 : B = 0
  · have x0 : ((B : Int) == 0) = true := by rw [beq_iff_eq]; omega
    clear h0
    go_enter Tryd.func5, Tryd.ntmps5
    go_wp2_with (go_at_call 17; (with_reducible refine (boundsIn_yes lo hi h1 h2 _).mono ?_); rintro e w1 ⟨rfl, rfl⟩)
    go_ret
    exact ⟨rfl, Below.refl _ _⟩
  · have x0 : ((B : Int) == 0) = false := by rw [beq_eq_false_iff_ne]; omega
    have HNE := Lib.hid (M.mask_some hlo h2 (by rw [HB.out]; exact h0))
    rw [HB.out] at HNE
    clear h0
    go_enter Tryd.func5, Tryd.ntmps5
    go_wp2_with (first
      | (go_at_call 17; (with_reducible refine (boundsIn_yes lo hi h1 h2 _).mono ?_); rintro e w1 ⟨rfl, rfl⟩)
      | (go_at_call 19; (with_reducible refine (cronRuns_any B _ HBL.out HNE.out).mono ?_); rintro e w2 ⟨J, R, rfl, hJ, hJs, hR, hb⟩; have HJS := Lib.hid (show J.size ≤ 2147483647 by omega); have HF := Lib.hid (show M.field (bdIn lo hi) (M.bs J) = some B by rw [← HB.out] at hR ⊢; exact M.runs_back hlo h2 hR hJ); have HB2 := Lib.hid hb; clear hJ hJs hR hb)
      | (go_at_call 18; (with_reducible refine (fieldIn_some lo hi J B _ hlo h2 HJS.out (HN.out.below HB2.out) HF).mono ?_); rintro e w3 ⟨rfl, hb⟩; have HB3 := Lib.hid (Below.up HB2.out hb); clear hb))
    go_ret
    exact ⟨rfl, HB3.out⟩
theorem wf_u64 {n : Int} (h : (Lit.int .u64 n).wf = true) : 0 ≤ n ∧ n < 18446744073709551616 := by
  simp only [Lit.wf, IntKind.min, IntKind.max, IntKind.signed, IntKind.bits, Bool.and_eq_true] at h
  simp at h
  omega
theorem runs_walk (lo hi b : Int) (w : World) (hE : NumErrs w) (w0 : (Lit.int .u64 lo).wf = true) (w1 : (Lit.int .u64 hi).wf = true) (w2 : (Lit.int .u64 b).wf = true) :
    Calls Tryd.prog 5 #[.int .u64 lo, .int .u64 hi, .int .u64 b] w fun e w' => e = .returned (.bool true) ∧ Below w.heap.size w w' := by
  obtain ⟨a1, a2⟩ := wf_u64 w0
  obtain ⟨b1, b2⟩ := wf_u64 w1
  obtain ⟨c1, c2⟩ := wf_u64 w2
  obtain ⟨lo, rfl⟩ := Int.eq_ofNat_of_zero_le a1
  obtain ⟨hi, rfl⟩ := Int.eq_ofNat_of_zero_le b1
  obtain ⟨b, rfl⟩ := Int.eq_ofNat_of_zero_le c1
  by_cases h : lo ≤ hi ∧ hi ≤ 62
  · exact runs_main lo hi b w hE h.1 h.2 (by omega)
  · clear w0 w1 w2 a1 a2 b1 b2 c1 c2
    have HH := Lib.hid h
    clear h
    go_enter Tryd.func5, Tryd.ntmps5
    go_wp2_with (go_at_call 17; (with_reducible refine (boundsIn_no lo hi HH.out _).mono ?_); rintro e w1 ⟨rfl, rfl⟩)
    go_ret
    exact ⟨rfl, Below.refl _ _⟩
end Go.Proofs.YtkjnajkbkaikaaaDoor
