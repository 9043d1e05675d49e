/-
  impl.CronValue: a number or a name of a field.
-/
import Derived.Test.YtjipjhpehfbpkaaDoorCTurn
namespace Go.Proofs.YtjipjhpehfbpkaaDoor
open Go.RowKit
set_option maxRecDepth 100000
set_option linter.unusedVariables false

theorem field_names (w : World) (x y : Int) (r : Option Nat) : (Instr.field 62 (.agg #[.int .u64 x, .int .u64 y, .map r]) 2).run Tryd.prog w = .ok (.map r) w := by kernel_rfl
namespace M
/-- the name of a value, in capital letters -/
def nameL : Nat → Nat → Bs
  | 4, 1 => [74, 65, 78] | 4, 2 => [70, 69, 66] | 4, 3 => [77, 65, 82] | 4, 4 => [65, 80, 82] | 4, 5 => [77, 65, 89] | 4, 6 => [74, 85, 78]
  | 4, 7 => [74, 85, 76] | 4, 8 => [65, 85, 71] | 4, 9 => [83, 69, 80] | 4, 10 => [79, 67, 84] | 4, 11 => [78, 79, 86] | 4, 12 => [68, 69, 67]
  | 5, 0 => [83, 85, 78] | 5, 1 => [77, 79, 78] | 5, 2 => [84, 85, 69] | 5, 3 => [87, 69, 68] | 5, 4 => [84, 72, 85] | 5, 5 => [70, 82, 73] | 5, 6 => [83, 65, 84]
  | _, _ => []
/-- a value with a name -/
def named (k v : Nat) : Prop := (k = 4 ∧ 1 ≤ v ∧ v ≤ 12) ∨ (k = 5 ∧ v ≤ 6)
theorem named_all {P : Nat → Nat → Prop} (h : ∀ kv ∈ [(4, 1), (4, 2), (4, 3), (4, 4), (4, 5), (4, 6), (4, 7), (4, 8), (4, 9), (4, 10), (4, 11), (4, 12), (5, 0), (5, 1), (5, 2), (5, 3), (5, 4), (5, 5), (5, 6)], P kv.1 kv.2) {k v : Nat} (hn : named k v) : P k v := by
  rcases hn with ⟨rfl, h1, h2⟩ | ⟨rfl, h2⟩
  · obtain rfl | rfl | rfl | rfl | rfl | rfl | rfl | rfl | rfl | rfl | rfl | rfl : v = 1 ∨ v = 2 ∨ v = 3 ∨ v = 4 ∨ v = 5 ∨ v = 6 ∨ v = 7 ∨ v = 8 ∨ v = 9 ∨ v = 10 ∨ v = 11 ∨ v = 12 := by omega
    all_goals exact h (_, _) (by decide)
  · obtain rfl | rfl | rfl | rfl | rfl | rfl | rfl : v = 0 ∨ v = 1 ∨ v = 2 ∨ v = 3 ∨ v = 4 ∨ v = 5 ∨ v = 6 := by omega
    all_goals exact h (_, _) (by decide)
/-- the names in small letters are looked up in their own field alone -/
theorem look_named {k v : Nat} (hn : named k v) : (lookT monT ((nameL k v).map low1) = if k = 4 then some v else none) ∧ (lookT dowT ((nameL k v).map low1) = if k = 5 then some v else none) ∧ (nameL k v).length = 3 ∧ ∀ c ∈ nameL k v, 65 ≤ c.toNat ∧ c.toNat ≤ 90 :=
  named_all (P := fun k v => (lookT monT ((nameL k v).map low1) = if k = 4 then some v else none) ∧ (lookT dowT ((nameL k v).map low1) = if k = 5 then some v else none) ∧ (nameL k v).length = 3 ∧ ∀ c ∈ nameL k v, 65 ≤ c.toNat ∧ c.toNat ≤ 90) (by decide) hn
theorem num_letter {c : UInt8} {r : Bs} (h : 65 ≤ c.toNat) : num (c :: r) = none := by
  apply num_bad
  have ho : opens (c :: r) = false := by
    show (c == 43 || (c == 45 && zeros r)) = false
    have a1 : (c == 43) = false := by rw [beq_eq_false_iff_ne]; intro e; rw [e] at h; exact absurd h (by decide)
    have a2 : (c == 45) = false := by rw [beq_eq_false_iff_ne]; intro e; rw [e] at h; exact absurd h (by decide)
    rw [a1, a2]; rfl
  have hd : digits (c :: r) = false := by
    have : isDig c = false := by
      cases hc : isDig c with
      | false => rfl
      | true => have := dig_iff.1 hc; omega
    simp only [digits, List.all_cons, this, Bool.false_and, Bool.and_false]
  unfold snum
  rw [ho]
  simp only [Bool.false_eq_true, if_false]
  rw [hd]
  rfl
/-- a name with some letters in small: its value in its own field, nothing in another -/
theorem ion_named {k v : Nat} (hn : named k v) {F : ByteArray} (hF : (bs F).map low1 = (nameL k v).map low1) (h65 : ∀ c ∈ bs F, 65 ≤ c.toNat ∧ c.toNat < 128) (j : Nat) (hj : j ≤ 5) : ion (bdOf j).nm (bs F) = if j = k then some v else none := by
  obtain ⟨h1, h2, h3, h4⟩ := look_named hn
  have hlow : lower F = (nameL k v).map low1 := by rw [lower_ascii F (fun c hc => (h65 c hc).2), hF]
  have hnum : num (bs F) = none := by
    have hl : (bs F).length = 3 := by
      have := congrArg List.length hF
      rw [List.length_map, List.length_map, h3] at this
      exact this
    cases hb : bs F with
    | nil => rw [hb] at hl; cases hl
    | cons c r => exact num_letter (h65 c (by rw [hb]; exact List.mem_cons_self)).1
  have hk : k = 4 ∨ k = 5 := by rcases hn with ⟨h, _⟩ | ⟨h, _⟩ <;> omega
  obtain rfl | rfl | rfl | rfl | rfl | rfl : j = 0 ∨ j = 1 ∨ j = 2 ∨ j = 3 ∨ j = 4 ∨ j = 5 := by omega
  · rw [if_neg (by omega)]; exact hnum
  · rw [if_neg (by omega)]; exact hnum
  · rw [if_neg (by omega)]; exact hnum
  · rw [if_neg (by omega)]; exact hnum
  · show (match nmOf monT (bs F) with | some v => some v | none => num (bs F)) = _
    rw [nmOf_bs, hlow, h1]
    rcases hk with rfl | rfl
    · rfl
    · exact hnum
  · show (match nmOf dowT (bs F) with | some v => some v | none => num (bs F)) = _
    rw [nmOf_bs, hlow, h2]
    rcases hk with rfl | rfl
    · exact hnum
    · rfl
end M
end Go.Proofs.YtjipjhpehfbpkaaDoor
