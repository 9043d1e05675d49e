/-
  package cron's getBits: the bits of a range with a step.
-/
import Derived.Test.YtjipjhpehfbpkaaDoorCGBits
import Derived.Test.YtjipjhpehfbpkaaDoorCPieces
import Derived.Test.YtjipjhpehfbpkaaDoorCSpecN
namespace Go.Proofs.YtjipjhpehfbpkaaDoor
open Go.RowKit
set_option maxRecDepth 100000
set_option linter.unusedVariables false

theorem ret_u64 {a b : Int} (h : a = b) : Ending.returned (.int .u64 a) = .returned (.int .u64 b) := by rw [h]
theorem shifts_eq (s e : Nat) (h1 : s ≤ e) (h2 : e ≤ 62) : bits .and .u64 (bits .xor .u64 IntKind.u64.max (IntKind.u64.wrap (18446744073709551615 * 2 ^ (e + 1)))) (IntKind.u64.wrap (18446744073709551615 * 2 ^ s)) = ((M.gbits s e 1 : Nat) : Int) := by
  rw [M.ones_shl (show e + 1 ≤ 64 by omega), M.ones_shl (show s ≤ 64 by omega)]
  have hm : IntKind.u64.max = ((18446744073709551615 : Nat) : Int) := rfl
  rw [hm, M.xor64 (by decide) (M.ones_lt _), M.and64 ?_ (M.ones_lt _), M.gbits_shift s e (by omega) (by omega)]
  have h : 18446744073709551615 ^^^ (18446744073709551616 - 2 ^ (e + 1)) < 2 ^ 64 := Nat.xor_lt_two_pow (by decide) (M.ones_lt _)
  exact h
set_option maxHeartbeats 1000000 in
theorem getBits_one (s e : Nat) (w : World) (h1 : s ≤ e) (h2 : e ≤ 62) :
    Calls Tryd.prog 50 #[.int .u64 (s : Int), .int .u64 (e : Int), .int .u64 1] w fun r w' => r = .returned (.int .u64 (M.gbits s e 1 : Nat)) ∧ w = w' := by
  have hsg : IntKind.u64.signed = false := rfl
  go_enter Tryd.func50, Tryd.ntmps50
  go_wp2
  go_ret
  exact ⟨ret_u64 (shifts_eq s e h1 h2), rfl⟩
theorem or_step {B k : Nat} (hB : B < 18446744073709551616) (hk : k < 64) : bits .or .u64 (B : Int) (IntKind.u64.wrap (2 ^ k)) = ((B ||| 2 ^ k : Nat) : Int) := by
  have h2 : 2 ^ k < 2 ^ 64 := Nat.pow_lt_pow_right (by omega) hk
  have := M.shl_one hk
  rw [Int.one_mul] at this
  rw [this, M.or64 hB h2]
set_option maxHeartbeats 1000000 in
theorem getBits_loop (s e st : Nat) (w : World) (h1 : s ≤ e) (h2 : e ≤ 62) (h3 : 1 < st) (h4 : (st : Int) < 9223372036854775808) :
    Calls Tryd.prog 50 #[.int .u64 (s : Int), .int .u64 (e : Int), .int .u64 (st : Int)] w fun r w' => r = .returned (.int .u64 (M.gbits s e st : Nat)) ∧ w = w' := by
  have hne : ((st : Int) == 1) = false := by rw [beq_eq_false_iff_ne]; omega
  go_enter Tryd.func50, Tryd.ntmps50
  go_wp2
  go_loop [7, 8] (fun b i => ∃ B k : Nat, b = .int .u64 (B : Int) ∧ i = .int .u64 (k : Int) ∧ s ≤ k ∧ Hid (M.GB s e st k B ∧ (k - s) % st = 0) ∧ (k : Int) ≤ 9223372036854775900) (fun _ i => 63 - (intOf i).toNat)
  case atStart => exact ⟨0, s, rfl, rfl, Nat.le_refl _, Lib.hid ⟨M.GB.zero _ _ _, by rw [Nat.sub_self]; exact Nat.zero_mod _⟩, by omega⟩
  case round =>
    obtain ⟨B, k, rfl, rfl, hk, HB, hk2⟩ := hrel
    by_cases hlt : k ≤ e
    · go_wp2
      go_round
      case rel => exact ⟨B ||| 2 ^ k, k + st, congrArg _ (or_step (HB.out.1.lt (by omega)) (by omega)), by go_num, by omega, Lib.hid ⟨HB.out.1.step hlt hk HB.out.2 (by omega), M.GB.mod hk HB.out.2⟩, by omega⟩
      case measure => simp [intOf]; omega
    · go_wp2
      go_ret
      exact ⟨ret_u64 (congrArg Nat.cast (M.GB.fin HB.out.1 (by omega) (by omega))), rfl⟩
theorem getBits_any (s e st : Nat) (w : World) (h1 : s ≤ e) (h2 : e ≤ 62) (h3 : 0 < st) (h4 : (st : Int) < 9223372036854775808) :
    Calls Tryd.prog 50 #[.int .u64 (s : Int), .int .u64 (e : Int), .int .u64 (st : Int)] w fun r w' => r = .returned (.int .u64 (M.gbits s e st : Nat)) ∧ w = w' := by
  by_cases h : st = 1
  · subst h
    exact getBits_one s e w h1 h2
  · exact getBits_loop s e st w h1 h2 (by omega) h4
end Go.Proofs.YtjipjhpehfbpkaaDoor
