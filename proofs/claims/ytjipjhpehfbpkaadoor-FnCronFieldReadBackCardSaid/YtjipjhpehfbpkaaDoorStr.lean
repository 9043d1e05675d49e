/-
  The reference's small checks of bytes and identifiers, as plain facts on bytes.
-/
import Derived.Test.YtjipjhpehfbpkaaDoorChecked
import Derived.Test.YtjipjhpehfbpkaaDoorMath
import Derived.WalkKit
import Derived.Handy
import Derived.Lib.Hide
namespace Go.Proofs.YtjipjhpehfbpkaaDoor
open Go.RowKit

theorem dig_int (c : UInt8) : M.isDig c = decide (48 ≤ (c.toNat : Int) ∧ (c.toNat : Int) ≤ 57) := by
  unfold M.isDig
  rw [Bool.eq_iff_iff]
  simp [UInt8.le_iff_toNat_le]
  omega

theorem ret_bool {a b : Bool} (h : a = b) : Ending.returned (.bool a) = .returned (.bool b) := by rw [h]

theorem byte_eq {c : UInt8} {n : Int} (d : UInt8) (hd : (d.toNat : Int) = n) (h : ((c.toNat : Int) == n) = true) : c = d := by
  rw [beq_iff_eq, ← hd] at h
  exact UInt8.toNat_inj.1 (by omega)
theorem byte_ne {c : UInt8} {n : Int} (d : UInt8) (hd : (d.toNat : Int) = n) (h : ((c.toNat : Int) == n) = false) : c ≠ d := by
  rintro rfl
  rw [hd] at h
  simp at h

theorem isDigit_any (c : UInt8) (w : World) :
    Calls Tryd.prog 55 #[.int .u8 c.toNat] w fun e w' => e = .returned (.bool (M.isDig c)) ∧ w' = w := by
  have h255 : (c.toNat : Int) ≤ 255 := by have := c.toNat_lt; omega
  go_enter Tryd.func55, Tryd.ntmps55
  go_wp2
  all_goals (go_ret; refine ⟨ret_bool ?_, rfl⟩; rw [dig_int, Bool.eq_iff_iff]; simp; omega)

theorem idc_int (c : UInt8) : M.isIdc c = (M.isDig c || decide (65 ≤ (c.toNat : Int) ∧ (c.toNat : Int) ≤ 90 ∨ 97 ≤ (c.toNat : Int) ∧ (c.toNat : Int) ≤ 122 ∨ (c.toNat : Int) = 45)) := by
  unfold M.isIdc
  rw [Bool.eq_iff_iff]
  cases M.isDig c
  · simp [UInt8.le_iff_toNat_le, ← UInt8.toNat_inj]
    omega
  · simp

theorem digits_loop (s : ByteArray) (k : Nat) (h : k < s.size) : (M.bs s).take (k + 1) = (M.bs s).take k ++ [s[k]] := by
  rw [List.take_succ_eq_append_getElem (by simpa [M.bs] using h)]; rfl

/-- 'for all bytes': a loop that returns false at the first that fails -/
theorem all_take (p : UInt8 → Bool) (s : ByteArray) (k : Nat) (h : k < s.size) (hk : ((M.bs s).take k).all p = true) (hp : p s[k] = true) : ((M.bs s).take (k + 1)).all p = true := by
  rw [digits_loop s k h, List.all_append, hk]
  simp [hp]
theorem all_false (p : UInt8 → Bool) (s : ByteArray) (k : Nat) (h : k < s.size) (hp : p s[k] = false) : (M.bs s).all p = false := by
  rw [List.all_eq_false]
  exact ⟨s[k], by unfold M.bs; exact List.getElem_mem (by simpa using h), by simp [hp]⟩
theorem empty_bs (s : ByteArray) : (M.bs s).isEmpty = s.toList.isEmpty := by rw [ByteArray.toList_eq]; rfl

end Go.Proofs.YtjipjhpehfbpkaaDoor
