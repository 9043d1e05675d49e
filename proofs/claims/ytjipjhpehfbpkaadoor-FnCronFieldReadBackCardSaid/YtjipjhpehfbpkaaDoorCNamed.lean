/-
  spec.CronName; laws.FnCronNames returns true for all kinds, values and flips.
-/
import Derived.Test.YtjipjhpehfbpkaaDoorCValue
import Derived.Test.YtjipjhpehfbpkaaDoorCRunsLaw
namespace Go.Proofs.YtjipjhpehfbpkaaDoor
open Go.RowKit
set_option maxRecDepth 100000
set_option linter.unusedVariables false

set_option maxHeartbeats 8000000 in
theorem name_lit (k v : Int) (s : ByteArray) (w : World) (h : (k = 4 ∧ v = 1 ∧ s = ⟨#[74, 65, 78]⟩) ∨ (k = 4 ∧ v = 2 ∧ s = ⟨#[70, 69, 66]⟩) ∨ (k = 4 ∧ v = 3 ∧ s = ⟨#[77, 65, 82]⟩) ∨ (k = 4 ∧ v = 4 ∧ s = ⟨#[65, 80, 82]⟩) ∨ (k = 4 ∧ v = 5 ∧ s = ⟨#[77, 65, 89]⟩) ∨ (k = 4 ∧ v = 6 ∧ s = ⟨#[74, 85, 78]⟩) ∨ (k = 4 ∧ v = 7 ∧ s = ⟨#[74, 85, 76]⟩) ∨ (k = 4 ∧ v = 8 ∧ s = ⟨#[65, 85, 71]⟩) ∨ (k = 4 ∧ v = 9 ∧ s = ⟨#[83, 69, 80]⟩) ∨ (k = 4 ∧ v = 10 ∧ s = ⟨#[79, 67, 84]⟩) ∨ (k = 4 ∧ v = 11 ∧ s = ⟨#[78, 79, 86]⟩) ∨ (k = 4 ∧ v = 12 ∧ s = ⟨#[68, 69, 67]⟩) ∨ (k = 5 ∧ v = 0 ∧ s = ⟨#[83, 85, 78]⟩) ∨ (k = 5 ∧ v = 1 ∧ s = ⟨#[77, 79, 78]⟩) ∨ (k = 5 ∧ v = 2 ∧ s = ⟨#[84, 85, 69]⟩) ∨ (k = 5 ∧ v = 3 ∧ s = ⟨#[87, 69, 68]⟩) ∨ (k = 5 ∧ v = 4 ∧ s = ⟨#[84, 72, 85]⟩) ∨ (k = 5 ∧ v = 5 ∧ s = ⟨#[70, 82, 73]⟩) ∨ (k = 5 ∧ v = 6 ∧ s = ⟨#[83, 65, 84]⟩)) : Calls Tryd.prog 52 #[.int .i64 k, .int .i64 v] w fun e w' => e = .returned (.string s) ∧ w = w' := by
  rcases h with ⟨rfl, rfl, rfl⟩ | ⟨rfl, rfl, rfl⟩ | ⟨rfl, rfl, rfl⟩ | ⟨rfl, rfl, rfl⟩ | ⟨rfl, rfl, rfl⟩ | ⟨rfl, rfl, rfl⟩ | ⟨rfl, rfl, rfl⟩ | ⟨rfl, rfl, rfl⟩ | ⟨rfl, rfl, rfl⟩ | ⟨rfl, rfl, rfl⟩ | ⟨rfl, rfl, rfl⟩ | ⟨rfl, rfl, rfl⟩ | ⟨rfl, rfl, rfl⟩ | ⟨rfl, rfl, rfl⟩ | ⟨rfl, rfl, rfl⟩ | ⟨rfl, rfl, rfl⟩ | ⟨rfl, rfl, rfl⟩ | ⟨rfl, rfl, rfl⟩ | ⟨rfl, rfl, rfl⟩
  all_goals
    go_enter Tryd.func52, Tryd.ntmps52
    go_wp2_with (first
      | (go_at_call 21; (with_reducible refine (low_lit 4 1 _ (by decide)).mono ?_); rintro e w1 ⟨rfl, rfl⟩)
      | (go_at_call 21; (with_reducible refine (low_lit 5 0 _ (by decide)).mono ?_); rintro e w1 ⟨rfl, rfl⟩)
      | (go_at_call 22; (with_reducible refine (high_lit 4 12 _ (by decide)).mono ?_); rintro e w1 ⟨rfl, rfl⟩)
      | (go_at_call 22; (with_reducible refine (high_lit 5 6 _ (by decide)).mono ?_); rintro e w1 ⟨rfl, rfl⟩))
    go_ret
    exact ⟨rfl, rfl⟩
theorem cronName_named {k v : Nat} (hn : M.named k v) (w : World) : Calls Tryd.prog 52 #[.int .i64 (k : Int), .int .i64 (v : Int)] w fun e w' => e = .returned (.string ⟨(M.nameL k v).toArray⟩) ∧ w = w' :=
  name_lit _ _ _ w (M.named_all (P := fun a b => ((a : Int) = 4 ∧ (b : Int) = 1 ∧ (⟨(M.nameL a b).toArray⟩ : ByteArray) = ⟨#[74, 65, 78]⟩) ∨ ((a : Int) = 4 ∧ (b : Int) = 2 ∧ (⟨(M.nameL a b).toArray⟩ : ByteArray) = ⟨#[70, 69, 66]⟩) ∨ ((a : Int) = 4 ∧ (b : Int) = 3 ∧ (⟨(M.nameL a b).toArray⟩ : ByteArray) = ⟨#[77, 65, 82]⟩) ∨ ((a : Int) = 4 ∧ (b : Int) = 4 ∧ (⟨(M.nameL a b).toArray⟩ : ByteArray) = ⟨#[65, 80, 82]⟩) ∨ ((a : Int) = 4 ∧ (b : Int) = 5 ∧ (⟨(M.nameL a b).toArray⟩ : ByteArray) = ⟨#[77, 65, 89]⟩) ∨ ((a : Int) = 4 ∧ (b : Int) = 6 ∧ (⟨(M.nameL a b).toArray⟩ : ByteArray) = ⟨#[74, 85, 78]⟩) ∨ ((a : Int) = 4 ∧ (b : Int) = 7 ∧ (⟨(M.nameL a b).toArray⟩ : ByteArray) = ⟨#[74, 85, 76]⟩) ∨ ((a : Int) = 4 ∧ (b : Int) = 8 ∧ (⟨(M.nameL a b).toArray⟩ : ByteArray) = ⟨#[65, 85, 71]⟩) ∨ ((a : Int) = 4 ∧ (b : Int) = 9 ∧ (⟨(M.nameL a b).toArray⟩ : ByteArray) = ⟨#[83, 69, 80]⟩) ∨ ((a : Int) = 4 ∧ (b : Int) = 10 ∧ (⟨(M.nameL a b).toArray⟩ : ByteArray) = ⟨#[79, 67, 84]⟩) ∨ ((a : Int) = 4 ∧ (b : Int) = 11 ∧ (⟨(M.nameL a b).toArray⟩ : ByteArray) = ⟨#[78, 79, 86]⟩) ∨ ((a : Int) = 4 ∧ (b : Int) = 12 ∧ (⟨(M.nameL a b).toArray⟩ : ByteArray) = ⟨#[68, 69, 67]⟩) ∨ ((a : Int) = 5 ∧ (b : Int) = 0 ∧ (⟨(M.nameL a b).toArray⟩ : ByteArray) = ⟨#[83, 85, 78]⟩) ∨ ((a : Int) = 5 ∧ (b : Int) = 1 ∧ (⟨(M.nameL a b).toArray⟩ : ByteArray) = ⟨#[77, 79, 78]⟩) ∨ ((a : Int) = 5 ∧ (b : Int) = 2 ∧ (⟨(M.nameL a b).toArray⟩ : ByteArray) = ⟨#[84, 85, 69]⟩) ∨ ((a : Int) = 5 ∧ (b : Int) = 3 ∧ (⟨(M.nameL a b).toArray⟩ : ByteArray) = ⟨#[87, 69, 68]⟩) ∨ ((a : Int) = 5 ∧ (b : Int) = 4 ∧ (⟨(M.nameL a b).toArray⟩ : ByteArray) = ⟨#[84, 72, 85]⟩) ∨ ((a : Int) = 5 ∧ (b : Int) = 5 ∧ (⟨(M.nameL a b).toArray⟩ : ByteArray) = ⟨#[70, 82, 73]⟩) ∨ ((a : Int) = 5 ∧ (b : Int) = 6 ∧ (⟨(M.nameL a b).toArray⟩ : ByteArray) = ⟨#[83, 65, 84]⟩)) (by decide +kernel) hn)
theorem cronName_no (k : Nat) (v : Int) (hk : k ≤ 3) (w : World) : Calls Tryd.prog 52 #[.int .i64 (k : Int), .int .i64 v] w fun e w' => e = .returned (.string ⟨#[]⟩) ∧ w = w' := by
  have x1 : ((k : Int) == 4) = false := by rw [beq_eq_false_iff_ne]; omega
  have x2 : ((k : Int) == 5) = false := by rw [beq_eq_false_iff_ne]; omega
  clear hk
  go_enter Tryd.func52, Tryd.ntmps52
  go_wp2
  go_ret
  exact ⟨rfl, rfl⟩
theorem named_of {k v : Nat} (h4 : 4 ≤ k) (hk : k ≤ 5) (h1 : (M.bdOf k).mn ≤ v) (h2 : v ≤ (M.bdOf k).mx) : M.named k v := by
  obtain rfl | rfl : k = 4 ∨ k = 5 := by omega
  · exact .inl ⟨rfl, h1, h2⟩
  · exact .inr ⟨rfl, h2⟩
end Go.Proofs.YtjipjhpehfbpkaaDoor
