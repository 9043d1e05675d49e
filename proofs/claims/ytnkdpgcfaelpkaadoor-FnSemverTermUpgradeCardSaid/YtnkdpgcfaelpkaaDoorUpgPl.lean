/-
  What a tilde and a caret ahead of a release say of its next versions: plain facts.
-/
import Derived.Test.YtnkdpgcfaelpkaaDoorBaseC
import Derived.Test.YtnkdpgcfaelpkaaDoorBaseB
namespace Go.Proofs.YtnkdpgcfaelpkaaDoor
open Go.RowKit
set_option maxRecDepth 100000
set_option linter.unusedVariables false

theorem seg_less {a b : Nat} (h : a < b) : M.seg a b = -1 := by unfold M.seg; rw [if_pos h]
theorem seg_more {a b : Nat} (h : b < a) : M.seg a b = 1 := by unfold M.seg; rw [if_neg (by omega), if_pos h]
theorem patch_above (op : Int) (a b c : Nat) : (V.bare a b (c + 1)).cmp (T.ver ⟨op, 3, a, b, c, ⟨#[]⟩⟩) = 1 := by
  unfold V.cmp V.nums3 V.bare T.ver
  simp [M.seg_cmp.refl, seg_more (show c < c + 1 by omega)]
theorem minor_above (op : Int) (a b c : Nat) : (V.bare a (b + 1) 0).cmp (T.ver ⟨op, 3, a, b, c, ⟨#[]⟩⟩) = 1 := by
  unfold V.cmp V.nums3 V.bare T.ver
  simp [M.seg_cmp.refl, seg_more (show b < b + 1 by omega)]
theorem major_above (op : Int) (a b c : Nat) : (V.bare (a + 1) 0 0).cmp (T.ver ⟨op, 3, a, b, c, ⟨#[]⟩⟩) = 1 := by
  unfold V.cmp V.nums3 V.bare T.ver
  simp [seg_more (show a < a + 1 by omega)]
theorem tilde_patch (op : Int) (a b c : Nat) : T.tilde ⟨op, 3, a, b, c, ⟨#[]⟩⟩ (V.bare a b (c + 1)) = true := by
  unfold T.tilde
  rw [patch_above]
  simp [V.bare]
theorem caret_patch (op : Int) (a b c : Nat) : T.caret ⟨op, 3, a, b, c, ⟨#[]⟩⟩ (V.bare a b (c + 1)) = (decide (0 < a) || decide (0 < b)) := by
  unfold T.caret
  rw [patch_above]
  by_cases ha : 0 < a
  · simp [V.bare, T.minor, ha]
  · by_cases hb : 0 < b
    · simp [V.bare, T.minor, T.patch, ha, hb]
    · simp [V.bare, T.minor, T.patch, ha, hb]
theorem tilde_minor (op : Int) (a b c : Nat) (h : ¬ (a = 0 ∧ b = 0 ∧ c = 0)) : T.tilde ⟨op, 3, a, b, c, ⟨#[]⟩⟩ (V.bare a (b + 1) 0) = false := by
  unfold T.tilde
  rw [minor_above]
  simp [V.bare, T.minor, T.patch]
  omega
theorem caret_minor (op : Int) (a b c : Nat) : T.caret ⟨op, 3, a, b, c, ⟨#[]⟩⟩ (V.bare a (b + 1) 0) = decide (0 < a) := by
  unfold T.caret
  rw [minor_above]
  by_cases ha : 0 < a
  · simp [V.bare, T.minor, ha]
  · by_cases hb : 0 < b
    · simp [V.bare, T.minor, T.patch, ha, hb]
    · simp [V.bare, T.minor, T.patch, ha, hb]
theorem tilde_major (op : Int) (a b c : Nat) (h : ¬ (a = 0 ∧ b = 0 ∧ c = 0)) : T.tilde ⟨op, 3, a, b, c, ⟨#[]⟩⟩ (V.bare (a + 1) 0 0) = false := by
  unfold T.tilde
  rw [major_above]
  simp [V.bare, T.minor, T.patch]
  omega
theorem caret_major (op : Int) (a b c : Nat) : T.caret ⟨op, 3, a, b, c, ⟨#[]⟩⟩ (V.bare (a + 1) 0 0) = false := by
  unfold T.caret
  rw [major_above]
  by_cases ha : 0 < a
  · simp [V.bare, T.minor, ha]
  · simp [V.bare, T.minor, T.patch, ha]
end Go.Proofs.YtnkdpgcfaelpkaaDoor
